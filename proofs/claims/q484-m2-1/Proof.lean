import JvmDerived
import JvmDerived.Pilot.@@N@@Statement
import JvmDerived.Pilot.@@N@@Code
set_option linter.unusedVariables false
set_option linter.unusedSimpArgs false
namespace Jvm.RoadKit
open Sem ClassFile Op Lib Jvm.Stand Jvm.Free Jvm.LawKit
section New
variable {p : Program} {l : Launch} {e : Env} {R : Room} {s : State} {m : MethodId} {args : Array Value} {below : List Frame} {meth : Method} {c : Code} {T : State} {locs : List Loc} {cells slots : Nat}
theorem retI (X : Stand p l e R s m args below meth c T locs cells slots) (hx : p.tables.exec = Jvm.exec) {pc : Nat} {Ls : Array Slot} {z : Int32} {rest : List Value} (hret : meth.sig.returnType = some .int) (hd : decode c.code pc = .ok (.ireturn, 1)) {fs : List Frame}
    (hl : ∀ (f : JFrame) (acts : List Action), f.method = m → f.locked = none → f.entered = [] → (doReturn e (T.setTop f) acts (some (.int z))).1 = T.setFrames fs) : Steps p.tables e below (T.setTop (mkF m pc Ls (.int z :: rest))) (T.setFrames fs) := by
  have hm' : T.vm.method? m = some meth := X.method'
  have hn : narrow .int (.int z) = .int z := rfl
  show Steps p.tables e below (T.setTop { method := m, pc := pc, locals := Ls, stack := _ :: rest, locked := none }) _
  jvm_step X.here [X.here.top, hx, hd, hm', hret, hn]
  first | (intro acts; rw [hl _ acts rfl rfl rfl]) | rw [hl _ _ rfl rfl rfl]
  exact Steps.refl _
end New
end Jvm.RoadKit
namespace Jvm.Pilot.@@N@@
open Jvm Jvm.ClassFile Sem Op Lib Jvm.Free Jvm.Stand Jvm.LawKit Jvm.RoadKit Bundle Jvm.Pilot.@@N@@.Jvm.D
def own_sel (k : Int32) (b0 b1 b2 b3 b4 b5 b6 b7 b8 b9 : Addr) : Addr := if k = (0 : Int32) then b0 else if k = (1 : Int32) then b1 else if k = (2 : Int32) then b2 else if k = (3 : Int32) then b3 else if k = (4 : Int32) then b4 else if k = (5 : Int32) then b5 else if k = (6 : Int32) then b6 else if k = (7 : Int32) then b7 else if k = (8 : Int32) then b8 else b9
theorem own_sel_4 {k : Int32} (h : k = (4 : Int32)) (b0 b1 b2 b3 b4 b5 b6 b7 b8 b9 : Addr) : own_sel k b0 b1 b2 b3 b4 b5 b6 b7 b8 b9 = b4 := by subst h; rfl
theorem own_sel_5 {k : Int32} (h : k = (5 : Int32)) (b0 b1 b2 b3 b4 b5 b6 b7 b8 b9 : Addr) : own_sel k b0 b1 b2 b3 b4 b5 b6 b7 b8 b9 = b5 := by subst h; rfl
theorem own_sel_P {P : Addr → Prop} {k : Int32} {b0 b1 b2 b3 b4 b5 b6 b7 b8 b9 : Addr} (h4 : ¬ k = (4 : Int32)) (h5 : ¬ k = (5 : Int32)) (g0 : P b0) (g1 : P b1) (g2 : P b2) (g3 : P b3) (g6 : P b6) (g7 : P b7) (g8 : P b8) (g9 : P b9) : P (own_sel k b0 b1 b2 b3 b4 b5 b6 b7 b8 b9) := by
  unfold own_sel
  rw [if_neg h4, if_neg h5]
  repeat' split
  all_goals assumption
def own_isf (a r d : Addr) : Int32 := if a = r then 1 else if a = d then 1 else 0
theorem own_isf_4 (r d : Addr) : own_isf r r d = (1 : Int32) := by unfold own_isf; rw [if_pos rfl]
theorem own_isf_5 {r d : Addr} (h : ¬ d = r) : own_isf d r d = (1 : Int32) := by unfold own_isf; rw [if_neg h, if_pos rfl]
theorem own_isf_a {a r d : Addr} (h : a = r) : own_isf a r d = (1 : Int32) := by unfold own_isf; rw [if_pos h]
theorem own_isf_b {a r d : Addr} (h : ¬ a = r) (g : a = d) : own_isf a r d = (1 : Int32) := by unfold own_isf; rw [if_neg h, if_pos g]
theorem own_isf_0 {a r d : Addr} (h : ¬ a = r) (g : ¬ a = d) : own_isf a r d = (0 : Int32) := by unfold own_isf; rw [if_neg h, if_neg g]
section OwnTerms
variable {args : Array Value} {s : State}
theorem own_eqI {a : Term} {n : Int32} (h : (Jvm.Cond.eq a (.int n)).value args s none s [] = some true) : a.eval args s none [] s = some (.int n) := by
  obtain ⟨x, y, hx, hy, -, k2⟩ := cmp_v (Or.inl h)
  obtain rfl : y = .int n := (Option.some.inj hy).symm
  obtain ⟨z, rfl⟩ := k2
  rw [hx, gotT (Cond.eq_ints hx (Term.int_eval n)) h]
theorem own_eqR {a b : Term} {y : Addr} (hb : b.eval args s none [] s = some (.ref y)) (h : (Jvm.Cond.eq a b).value args s none s [] = some true) : a.eval args s none [] s = some (.ref y) := by
  obtain ⟨x, y', hx, hy, -, k2⟩ := cmp_v (Or.inl h)
  cases hb.symm.trans hy
  rw [hx, gotT (eq_R hx hb k2.2 rfl) h]
theorem own_fld {t : Term} {C n d : String} {a : Addr} {v : Value} (ht : t.eval args s none [] s = some (.ref a)) (h : (Term.field t C n d).eval args s none [] s = some v) : Fld s s.heap a C n d v := Fld.start ((fld_at ht).symm.trans h)
end OwnTerms
/-- from S the run comes to a return at which R holds -/
def Goes (p : Program) (e : Env) (below : List Frame) (R : State → Outcome → Prop) (S : State) : Prop := ∃ s₂ o, Steps p.tables e below S s₂ ∧ s₂.status = .running ∧ Ended s₂ below o ∧ R s₂ o
theorem Goes.step {p : Program} {e : Env} {below : List Frame} {R : State → Outcome → Prop} {S S' : State} (h : ∀ t, Steps p.tables e below S' t → Steps p.tables e below S t) (g : Goes p e below R S') : Goes p e below R S := by
  obtain ⟨s₂, o, h1, h2⟩ := g
  exact ⟨s₂, o, h _ h1, h2⟩
theorem d1_0 : decode method_2_code 0 = .ok (.iload_n 0, 1) := by decide +kernel
theorem d1_1 : decode method_2_code 1 = .ok (.ifCond .ne 7, 3) := by decide +kernel
theorem d1_4 : decode method_2_code 4 = .ok (.getstatic 7, 3) := by decide +kernel
theorem d1_7 : decode method_2_code 7 = .ok (.areturn, 1) := by decide +kernel
theorem d1_8 : decode method_2_code 8 = .ok (.iload_n 0, 1) := by decide +kernel
theorem d1_9 : decode method_2_code 9 = .ok (.iconst 1, 1) := by decide +kernel
theorem d1_10 : decode method_2_code 10 = .ok (.if_icmp .ne 7, 3) := by decide +kernel
theorem d1_13 : decode method_2_code 13 = .ok (.getstatic 13, 3) := by decide +kernel
theorem d1_16 : decode method_2_code 16 = .ok (.areturn, 1) := by decide +kernel
theorem d1_17 : decode method_2_code 17 = .ok (.iload_n 0, 1) := by decide +kernel
theorem d1_18 : decode method_2_code 18 = .ok (.iconst 2, 1) := by decide +kernel
theorem d1_19 : decode method_2_code 19 = .ok (.if_icmp .ne 7, 3) := by decide +kernel
theorem d1_22 : decode method_2_code 22 = .ok (.getstatic 16, 3) := by decide +kernel
theorem d1_25 : decode method_2_code 25 = .ok (.areturn, 1) := by decide +kernel
theorem d1_26 : decode method_2_code 26 = .ok (.iload_n 0, 1) := by decide +kernel
theorem d1_27 : decode method_2_code 27 = .ok (.iconst 3, 1) := by decide +kernel
theorem d1_28 : decode method_2_code 28 = .ok (.if_icmp .ne 7, 3) := by decide +kernel
theorem d1_31 : decode method_2_code 31 = .ok (.getstatic 19, 3) := by decide +kernel
theorem d1_34 : decode method_2_code 34 = .ok (.areturn, 1) := by decide +kernel
theorem d1_35 : decode method_2_code 35 = .ok (.iload_n 0, 1) := by decide +kernel
theorem d1_36 : decode method_2_code 36 = .ok (.iconst 4, 1) := by decide +kernel
theorem d1_37 : decode method_2_code 37 = .ok (.if_icmp .ne 7, 3) := by decide +kernel
theorem d1_40 : decode method_2_code 40 = .ok (.getstatic 22, 3) := by decide +kernel
theorem d1_43 : decode method_2_code 43 = .ok (.areturn, 1) := by decide +kernel
theorem d1_44 : decode method_2_code 44 = .ok (.iload_n 0, 1) := by decide +kernel
theorem d1_45 : decode method_2_code 45 = .ok (.iconst 5, 1) := by decide +kernel
theorem d1_46 : decode method_2_code 46 = .ok (.if_icmp .ne 7, 3) := by decide +kernel
theorem d1_49 : decode method_2_code 49 = .ok (.getstatic 25, 3) := by decide +kernel
theorem d1_52 : decode method_2_code 52 = .ok (.areturn, 1) := by decide +kernel
theorem d1_53 : decode method_2_code 53 = .ok (.iload_n 0, 1) := by decide +kernel
theorem d1_54 : decode method_2_code 54 = .ok (.bipush 6, 2) := by decide +kernel
theorem d1_56 : decode method_2_code 56 = .ok (.if_icmp .ne 7, 3) := by decide +kernel
theorem d1_59 : decode method_2_code 59 = .ok (.getstatic 28, 3) := by decide +kernel
theorem d1_62 : decode method_2_code 62 = .ok (.areturn, 1) := by decide +kernel
theorem d1_63 : decode method_2_code 63 = .ok (.iload_n 0, 1) := by decide +kernel
theorem d1_64 : decode method_2_code 64 = .ok (.bipush 7, 2) := by decide +kernel
theorem d1_66 : decode method_2_code 66 = .ok (.if_icmp .ne 7, 3) := by decide +kernel
theorem d1_69 : decode method_2_code 69 = .ok (.getstatic 31, 3) := by decide +kernel
theorem d1_72 : decode method_2_code 72 = .ok (.areturn, 1) := by decide +kernel
theorem d1_73 : decode method_2_code 73 = .ok (.iload_n 0, 1) := by decide +kernel
theorem d1_74 : decode method_2_code 74 = .ok (.bipush 8, 2) := by decide +kernel
theorem d1_76 : decode method_2_code 76 = .ok (.if_icmp .ne 7, 3) := by decide +kernel
theorem d1_79 : decode method_2_code 79 = .ok (.getstatic 34, 3) := by decide +kernel
theorem d1_82 : decode method_2_code 82 = .ok (.areturn, 1) := by decide +kernel
theorem d1_83 : decode method_2_code 83 = .ok (.getstatic 37, 3) := by decide +kernel
theorem d1_86 : decode method_2_code 86 = .ok (.areturn, 1) := by decide +kernel
theorem pn_1 : plainName "com/example/querymorph/querymorph/generator/PostgresTypeIsFloatPinLaw" = true := by first | (simp [plainName, overriddenIn]; done) | decide +kernel
theorem pd_1 : parseMethodDescriptor "(I)Lcom/example/querymorph/querymorph/generator/PostgresType;" = some ⟨[.int], some (.object "com/example/querymorph/querymorph/generator/PostgresType")⟩ := by decide +kernel
theorem ef_1 (m : MethodId) (y0 : Int32) : entryFrame m #[(.int y0)] 1 = mkF m 0 #[.val (.int y0)] [] := by first | (simp [entryFrame, mkF, argsToLocals, Value.category]; done) | rfl
def Q1 (Z : State) (p1 : Int32) (b0 : Addr) (b1 : Addr) (b2 : Addr) (b3 : Addr) (b4 : Addr) (b5 : Addr) (b6 : Addr) (b7 : Addr) (b8 : Addr) (b9 : Addr) (h0 : Heap) (n0 : Nat) (v : Option Value) (h : Heap) (L : List Loc) : Prop := v = some (.ref (own_sel p1 b0 b1 b2 b3 b4 b5 b6 b7 b8 b9)) ∧ Fr n0 L ∧ h = h0
def R1 (Z : State) (p1 : Int32) (b0 : Addr) (b1 : Addr) (b2 : Addr) (b3 : Addr) (b4 : Addr) (b5 : Addr) (b6 : Addr) (b7 : Addr) (b8 : Addr) (b9 : Addr) (h0 : Heap) (n0 : Nat) (U : State) (U' : State) (o : Outcome) : Prop := ∃ v L, o = .returned v ∧ Q1 Z p1 b0 b1 b2 b3 b4 b5 b6 b7 b8 b9 h0 n0 v U'.heap L ∧ FrameEnd U o U' L ({ frames := 0, cells := 0, slots := 0, locals := 0 } : Room).cells ({ frames := 0, cells := 0, slots := 0, locals := 0 } : Room).slots
set_option maxRecDepth 65536 in
set_option maxHeartbeats 40000000 in
theorem rm1 (l : Launch) (Z : State) (a0 : Array Value) (hw : ∀ d ∈ tables_1, d.before a0 Z = true) (ws : List Jvm.Cond) (p1 : Int32) (b0 : Addr) (b1 : Addr) (b2 : Addr) (b3 : Addr) (b4 : Addr) (b5 : Addr) (b6 : Addr) (b7 : Addr) (b8 : Addr) (b9 : Addr) (h0 : Heap) (n0 : Nat) (Z0 : n0 ≤ h0.size) (S0 : (Sta Z h0 "com/example/querymorph/querymorph/generator/PostgresType" "SMALLINT" "Lcom/example/querymorph/querymorph/generator/PostgresType;" (.ref b0))) (S1 : (Sta Z h0 "com/example/querymorph/querymorph/generator/PostgresType" "INTEGER" "Lcom/example/querymorph/querymorph/generator/PostgresType;" (.ref b1))) (S2 : (Sta Z h0 "com/example/querymorph/querymorph/generator/PostgresType" "BIGINT" "Lcom/example/querymorph/querymorph/generator/PostgresType;" (.ref b2))) (S3 : (Sta Z h0 "com/example/querymorph/querymorph/generator/PostgresType" "NUMERIC" "Lcom/example/querymorph/querymorph/generator/PostgresType;" (.ref b3))) (S4 : (Sta Z h0 "com/example/querymorph/querymorph/generator/PostgresType" "REAL" "Lcom/example/querymorph/querymorph/generator/PostgresType;" (.ref b4))) (S5 : (Sta Z h0 "com/example/querymorph/querymorph/generator/PostgresType" "DOUBLE" "Lcom/example/querymorph/querymorph/generator/PostgresType;" (.ref b5))) (S6 : (Sta Z h0 "com/example/querymorph/querymorph/generator/PostgresType" "TEXT" "Lcom/example/querymorph/querymorph/generator/PostgresType;" (.ref b6))) (S7 : (Sta Z h0 "com/example/querymorph/querymorph/generator/PostgresType" "BOOLEAN" "Lcom/example/querymorph/querymorph/generator/PostgresType;" (.ref b7))) (S8 : (Sta Z h0 "com/example/querymorph/querymorph/generator/PostgresType" "DATE" "Lcom/example/querymorph/querymorph/generator/PostgresType;" (.ref b8))) (S9 : (Sta Z h0 "com/example/querymorph/querymorph/generator/PostgresType" "TIMESTAMP" "Lcom/example/querymorph/querymorph/generator/PostgresType;" (.ref b9))) :
    MetFree l (⟨"com/example/querymorph/querymorph/generator/PostgresTypeIsFloatPinLaw", "pick", "(I)Lcom/example/querymorph/querymorph/generator/PostgresType;"⟩ : MethodName) (head1 (Jvm.Cond.code (⟨"com/example/querymorph/querymorph/generator/PostgresTypeIsFloatPinLaw", "pick", "(I)Lcom/example/querymorph/querymorph/generator/PostgresType;"⟩ : MethodName) method_2_code 1 (some (.object "com/example/querymorph/querymorph/generator/PostgresType")) :: ws) ({ frames := 0, cells := 0, slots := 0, locals := 0 } : Room)) (fun a U => a = #[(.int p1)] ∧ Z.Warmed39 U.vm ∧ U.heap = h0) (fun _ _ _ _ _ => True) (fun _ U o U' => ∃ v L, o = .returned v ∧ Q1 Z p1 b0 b1 b2 b3 b4 b5 b6 b7 b8 b9 h0 n0 v U'.heap L ∧ FrameEnd U o U' L ({ frames := 0, cells := 0, slots := 0, locals := 0 } : Room).cells ({ frames := 0, cells := 0, slots := 0, locals := 0 } : Room).slots) := by
  refine MetFree.of_bodySF (plainFor_of_name pn_1) hisR ?_
  intro p e s m args below meth c s₁ Bd hml0 hP hK
  obtain ⟨rfl, hZ, hh⟩ := hP
  have hx := Bd.exec
  have hby := Bd.bytes
  have hml : c.maxLocals = 1 := hml0
  have hown : s.vm.findClass "com/example/querymorph/querymorph/generator/PostgresTypeIsFloatPinLaw" = some m.cls := findClass_of_methodNamed Bd.named
  have hnm := (name_of_methodNamed Bd.named Bd.method).1
  have X0 : Stand p l e ({ frames := 0, cells := 0, slots := 0, locals := 0 } : Room) s m #[(.int p1)] below meth c s₁ [] 0 0 := Stand.of_body Bd
  have e0 : s₁.heap = h0 := by rw [← hh, Bd.state]; rfl
  have N0 := Fr.nil n0
  show Goes p e below (R1 Z p1 b0 b1 b2 b3 b4 b5 b6 b7 b8 b9 h0 n0 s) (s₁.setTop (entryFrame m #[(.int p1)] 1))
  refine Goes.step (S' := s₁.setTop (mkF m 0 #[.val (.int p1)] [])) (fun t k => castTop (ef_1 m p1) k) ?_
  refine Goes.step (S' := s₁.setTop (mkF m 1 #[.val (.int p1)] [(.int p1)])) (fun t k => XS.iloadN X0.here hx rfl (hb hby d1_0) rfl k) ?_
  by_cases c0 : p1 = (0 : Int32)
  · refine Goes.step (S' := s₁.setTop (mkF m 4 #[.val (.int p1)] [])) (fun t k => XS.ifNo X0.here hx rfl (hb hby d1_1) rfl ((if0 _ _).trans (teq c0).2) k) ?_
    obtain ⟨T1, X1, e1, st1⟩ := getS X0 hx hZ (host := "") hown (hw _ (List.mem_of_getElem? (i := 5) rfl)) Via.refl e0 S0 (g := (mkF m 4 #[.val (.int p1)] [])) rfl (hb hby d1_4)
    refine Goes.step (S' := T1.setTop (mkF m 7 #[.val (.int p1)] [(.ref b0)])) (fun t k => st1 t k) ?_
    obtain ⟨fs, hr, hrun, hended, hW, hsame⟩ := X1.leave (v := some (.ref b0)) (fun h => by rw [Bd.returns] at h; cases h)
    exact ⟨_, _, retOut X1 hx Bd.returns rfl (Or.inr (Or.inr (Or.inr (Or.inr ⟨rfl, rfl, rfl⟩)))) (hb hby d1_7) hr, hrun, hended, _, _, rfl, ⟨by simp only [own_sel, if_pos c0], N0, e1⟩, ⟨_, rfl⟩, hW, hsame.mono (by decide) (by decide)⟩
  · refine Goes.step (S' := s₁.setTop (mkF m 8 #[.val (.int p1)] [])) (fun t k => XS.ifYes X0.here hx rfl (pc0 := 1) (pc' := 8) rfl (hb hby d1_1) rfl ((if0 _ _).trans (feq c0).2) (by decide) (by decide) k) ?_
    refine Goes.step (S' := s₁.setTop (mkF m 9 #[.val (.int p1)] [(.int p1)])) (fun t k => XS.iloadN X0.here hx rfl (hb hby d1_8) rfl k) ?_
    refine Goes.step (S' := s₁.setTop (mkF m 10 #[.val (.int p1)] [(.int (1 : Int32)), (.int p1)])) (fun t k => XS.iconst X0.here hx rfl (hb hby d1_9) k) ?_
    by_cases c1 : p1 = (1 : Int32)
    · refine Goes.step (S' := s₁.setTop (mkF m 13 #[.val (.int p1)] [])) (fun t k => XS.icmpNo X0.here hx rfl (hb hby d1_10) rfl (teq c1).2 k) ?_
      obtain ⟨T2, X2, e2, st2⟩ := getS X0 hx hZ (host := "") hown (hw _ (List.mem_of_getElem? (i := 19) rfl)) Via.refl e0 S1 (g := (mkF m 13 #[.val (.int p1)] [])) rfl (hb hby d1_13)
      refine Goes.step (S' := T2.setTop (mkF m 16 #[.val (.int p1)] [(.ref b1)])) (fun t k => st2 t k) ?_
      obtain ⟨fs, hr, hrun, hended, hW, hsame⟩ := X2.leave (v := some (.ref b1)) (fun h => by rw [Bd.returns] at h; cases h)
      exact ⟨_, _, retOut X2 hx Bd.returns rfl (Or.inr (Or.inr (Or.inr (Or.inr ⟨rfl, rfl, rfl⟩)))) (hb hby d1_16) hr, hrun, hended, _, _, rfl, ⟨by simp only [own_sel, if_neg c0, if_pos c1], N0, e2⟩, ⟨_, rfl⟩, hW, hsame.mono (by decide) (by decide)⟩
    · refine Goes.step (S' := s₁.setTop (mkF m 17 #[.val (.int p1)] [])) (fun t k => XS.icmpYes X0.here hx rfl (pc0 := 10) (pc' := 17) rfl (hb hby d1_10) rfl (feq c1).2 (by decide) (by decide) k) ?_
      refine Goes.step (S' := s₁.setTop (mkF m 18 #[.val (.int p1)] [(.int p1)])) (fun t k => XS.iloadN X0.here hx rfl (hb hby d1_17) rfl k) ?_
      refine Goes.step (S' := s₁.setTop (mkF m 19 #[.val (.int p1)] [(.int (2 : Int32)), (.int p1)])) (fun t k => XS.iconst X0.here hx rfl (hb hby d1_18) k) ?_
      by_cases c2 : p1 = (2 : Int32)
      · refine Goes.step (S' := s₁.setTop (mkF m 22 #[.val (.int p1)] [])) (fun t k => XS.icmpNo X0.here hx rfl (hb hby d1_19) rfl (teq c2).2 k) ?_
        obtain ⟨T3, X3, e3, st3⟩ := getS X0 hx hZ (host := "") hown (hw _ (List.mem_of_getElem? (i := 41) rfl)) Via.refl e0 S2 (g := (mkF m 22 #[.val (.int p1)] [])) rfl (hb hby d1_22)
        refine Goes.step (S' := T3.setTop (mkF m 25 #[.val (.int p1)] [(.ref b2)])) (fun t k => st3 t k) ?_
        obtain ⟨fs, hr, hrun, hended, hW, hsame⟩ := X3.leave (v := some (.ref b2)) (fun h => by rw [Bd.returns] at h; cases h)
        exact ⟨_, _, retOut X3 hx Bd.returns rfl (Or.inr (Or.inr (Or.inr (Or.inr ⟨rfl, rfl, rfl⟩)))) (hb hby d1_25) hr, hrun, hended, _, _, rfl, ⟨by simp only [own_sel, if_neg c0, if_neg c1, if_pos c2], N0, e3⟩, ⟨_, rfl⟩, hW, hsame.mono (by decide) (by decide)⟩
      · refine Goes.step (S' := s₁.setTop (mkF m 26 #[.val (.int p1)] [])) (fun t k => XS.icmpYes X0.here hx rfl (pc0 := 19) (pc' := 26) rfl (hb hby d1_19) rfl (feq c2).2 (by decide) (by decide) k) ?_
        refine Goes.step (S' := s₁.setTop (mkF m 27 #[.val (.int p1)] [(.int p1)])) (fun t k => XS.iloadN X0.here hx rfl (hb hby d1_26) rfl k) ?_
        refine Goes.step (S' := s₁.setTop (mkF m 28 #[.val (.int p1)] [(.int (3 : Int32)), (.int p1)])) (fun t k => XS.iconst X0.here hx rfl (hb hby d1_27) k) ?_
        by_cases c3 : p1 = (3 : Int32)
        · refine Goes.step (S' := s₁.setTop (mkF m 31 #[.val (.int p1)] [])) (fun t k => XS.icmpNo X0.here hx rfl (hb hby d1_28) rfl (teq c3).2 k) ?_
          obtain ⟨T4, X4, e4, st4⟩ := getS X0 hx hZ (host := "") hown (hw _ (List.mem_of_getElem? (i := 17) rfl)) Via.refl e0 S3 (g := (mkF m 31 #[.val (.int p1)] [])) rfl (hb hby d1_31)
          refine Goes.step (S' := T4.setTop (mkF m 34 #[.val (.int p1)] [(.ref b3)])) (fun t k => st4 t k) ?_
          obtain ⟨fs, hr, hrun, hended, hW, hsame⟩ := X4.leave (v := some (.ref b3)) (fun h => by rw [Bd.returns] at h; cases h)
          exact ⟨_, _, retOut X4 hx Bd.returns rfl (Or.inr (Or.inr (Or.inr (Or.inr ⟨rfl, rfl, rfl⟩)))) (hb hby d1_34) hr, hrun, hended, _, _, rfl, ⟨by simp only [own_sel, if_neg c0, if_neg c1, if_neg c2, if_pos c3], N0, e4⟩, ⟨_, rfl⟩, hW, hsame.mono (by decide) (by decide)⟩
        · refine Goes.step (S' := s₁.setTop (mkF m 35 #[.val (.int p1)] [])) (fun t k => XS.icmpYes X0.here hx rfl (pc0 := 28) (pc' := 35) rfl (hb hby d1_28) rfl (feq c3).2 (by decide) (by decide) k) ?_
          refine Goes.step (S' := s₁.setTop (mkF m 36 #[.val (.int p1)] [(.int p1)])) (fun t k => XS.iloadN X0.here hx rfl (hb hby d1_35) rfl k) ?_
          refine Goes.step (S' := s₁.setTop (mkF m 37 #[.val (.int p1)] [(.int (4 : Int32)), (.int p1)])) (fun t k => XS.iconst X0.here hx rfl (hb hby d1_36) k) ?_
          by_cases c4 : p1 = (4 : Int32)
          · refine Goes.step (S' := s₁.setTop (mkF m 40 #[.val (.int p1)] [])) (fun t k => XS.icmpNo X0.here hx rfl (hb hby d1_37) rfl (teq c4).2 k) ?_
            obtain ⟨T5, X5, e5, st5⟩ := getS X0 hx hZ (host := "") hown (hw _ (List.mem_of_getElem? (i := 21) rfl)) Via.refl e0 S4 (g := (mkF m 40 #[.val (.int p1)] [])) rfl (hb hby d1_40)
            refine Goes.step (S' := T5.setTop (mkF m 43 #[.val (.int p1)] [(.ref b4)])) (fun t k => st5 t k) ?_
            obtain ⟨fs, hr, hrun, hended, hW, hsame⟩ := X5.leave (v := some (.ref b4)) (fun h => by rw [Bd.returns] at h; cases h)
            exact ⟨_, _, retOut X5 hx Bd.returns rfl (Or.inr (Or.inr (Or.inr (Or.inr ⟨rfl, rfl, rfl⟩)))) (hb hby d1_43) hr, hrun, hended, _, _, rfl, ⟨by simp only [own_sel, if_neg c0, if_neg c1, if_neg c2, if_neg c3, if_pos c4], N0, e5⟩, ⟨_, rfl⟩, hW, hsame.mono (by decide) (by decide)⟩
          · refine Goes.step (S' := s₁.setTop (mkF m 44 #[.val (.int p1)] [])) (fun t k => XS.icmpYes X0.here hx rfl (pc0 := 37) (pc' := 44) rfl (hb hby d1_37) rfl (feq c4).2 (by decide) (by decide) k) ?_
            refine Goes.step (S' := s₁.setTop (mkF m 45 #[.val (.int p1)] [(.int p1)])) (fun t k => XS.iloadN X0.here hx rfl (hb hby d1_44) rfl k) ?_
            refine Goes.step (S' := s₁.setTop (mkF m 46 #[.val (.int p1)] [(.int (5 : Int32)), (.int p1)])) (fun t k => XS.iconst X0.here hx rfl (hb hby d1_45) k) ?_
            by_cases c5 : p1 = (5 : Int32)
            · refine Goes.step (S' := s₁.setTop (mkF m 49 #[.val (.int p1)] [])) (fun t k => XS.icmpNo X0.here hx rfl (hb hby d1_46) rfl (teq c5).2 k) ?_
              obtain ⟨T6, X6, e6, st6⟩ := getS X0 hx hZ (host := "") hown (hw _ (List.mem_of_getElem? (i := 47) rfl)) Via.refl e0 S5 (g := (mkF m 49 #[.val (.int p1)] [])) rfl (hb hby d1_49)
              refine Goes.step (S' := T6.setTop (mkF m 52 #[.val (.int p1)] [(.ref b5)])) (fun t k => st6 t k) ?_
              obtain ⟨fs, hr, hrun, hended, hW, hsame⟩ := X6.leave (v := some (.ref b5)) (fun h => by rw [Bd.returns] at h; cases h)
              exact ⟨_, _, retOut X6 hx Bd.returns rfl (Or.inr (Or.inr (Or.inr (Or.inr ⟨rfl, rfl, rfl⟩)))) (hb hby d1_52) hr, hrun, hended, _, _, rfl, ⟨by simp only [own_sel, if_neg c0, if_neg c1, if_neg c2, if_neg c3, if_neg c4, if_pos c5], N0, e6⟩, ⟨_, rfl⟩, hW, hsame.mono (by decide) (by decide)⟩
            · refine Goes.step (S' := s₁.setTop (mkF m 53 #[.val (.int p1)] [])) (fun t k => XS.icmpYes X0.here hx rfl (pc0 := 46) (pc' := 53) rfl (hb hby d1_46) rfl (feq c5).2 (by decide) (by decide) k) ?_
              refine Goes.step (S' := s₁.setTop (mkF m 54 #[.val (.int p1)] [(.int p1)])) (fun t k => XS.iloadN X0.here hx rfl (hb hby d1_53) rfl k) ?_
              refine Goes.step (S' := s₁.setTop (mkF m 56 #[.val (.int p1)] [(.int (6 : Int32)), (.int p1)])) (fun t k => XS.bipush X0.here hx rfl (hb hby d1_54) k) ?_
              by_cases c6 : p1 = (6 : Int32)
              · refine Goes.step (S' := s₁.setTop (mkF m 59 #[.val (.int p1)] [])) (fun t k => XS.icmpNo X0.here hx rfl (hb hby d1_56) rfl (teq c6).2 k) ?_
                obtain ⟨T7, X7, e7, st7⟩ := getS X0 hx hZ (host := "") hown (hw _ (List.mem_of_getElem? (i := 48) rfl)) Via.refl e0 S6 (g := (mkF m 59 #[.val (.int p1)] [])) rfl (hb hby d1_59)
                refine Goes.step (S' := T7.setTop (mkF m 62 #[.val (.int p1)] [(.ref b6)])) (fun t k => st7 t k) ?_
                obtain ⟨fs, hr, hrun, hended, hW, hsame⟩ := X7.leave (v := some (.ref b6)) (fun h => by rw [Bd.returns] at h; cases h)
                exact ⟨_, _, retOut X7 hx Bd.returns rfl (Or.inr (Or.inr (Or.inr (Or.inr ⟨rfl, rfl, rfl⟩)))) (hb hby d1_62) hr, hrun, hended, _, _, rfl, ⟨by simp only [own_sel, if_neg c0, if_neg c1, if_neg c2, if_neg c3, if_neg c4, if_neg c5, if_pos c6], N0, e7⟩, ⟨_, rfl⟩, hW, hsame.mono (by decide) (by decide)⟩
              · refine Goes.step (S' := s₁.setTop (mkF m 63 #[.val (.int p1)] [])) (fun t k => XS.icmpYes X0.here hx rfl (pc0 := 56) (pc' := 63) rfl (hb hby d1_56) rfl (feq c6).2 (by decide) (by decide) k) ?_
                refine Goes.step (S' := s₁.setTop (mkF m 64 #[.val (.int p1)] [(.int p1)])) (fun t k => XS.iloadN X0.here hx rfl (hb hby d1_63) rfl k) ?_
                refine Goes.step (S' := s₁.setTop (mkF m 66 #[.val (.int p1)] [(.int (7 : Int32)), (.int p1)])) (fun t k => XS.bipush X0.here hx rfl (hb hby d1_64) k) ?_
                by_cases c7 : p1 = (7 : Int32)
                · refine Goes.step (S' := s₁.setTop (mkF m 69 #[.val (.int p1)] [])) (fun t k => XS.icmpNo X0.here hx rfl (hb hby d1_66) rfl (teq c7).2 k) ?_
                  obtain ⟨T8, X8, e8, st8⟩ := getS X0 hx hZ (host := "") hown (hw _ (List.mem_of_getElem? (i := 39) rfl)) Via.refl e0 S7 (g := (mkF m 69 #[.val (.int p1)] [])) rfl (hb hby d1_69)
                  refine Goes.step (S' := T8.setTop (mkF m 72 #[.val (.int p1)] [(.ref b7)])) (fun t k => st8 t k) ?_
                  obtain ⟨fs, hr, hrun, hended, hW, hsame⟩ := X8.leave (v := some (.ref b7)) (fun h => by rw [Bd.returns] at h; cases h)
                  exact ⟨_, _, retOut X8 hx Bd.returns rfl (Or.inr (Or.inr (Or.inr (Or.inr ⟨rfl, rfl, rfl⟩)))) (hb hby d1_72) hr, hrun, hended, _, _, rfl, ⟨by simp only [own_sel, if_neg c0, if_neg c1, if_neg c2, if_neg c3, if_neg c4, if_neg c5, if_neg c6, if_pos c7], N0, e8⟩, ⟨_, rfl⟩, hW, hsame.mono (by decide) (by decide)⟩
                · refine Goes.step (S' := s₁.setTop (mkF m 73 #[.val (.int p1)] [])) (fun t k => XS.icmpYes X0.here hx rfl (pc0 := 66) (pc' := 73) rfl (hb hby d1_66) rfl (feq c7).2 (by decide) (by decide) k) ?_
                  refine Goes.step (S' := s₁.setTop (mkF m 74 #[.val (.int p1)] [(.int p1)])) (fun t k => XS.iloadN X0.here hx rfl (hb hby d1_73) rfl k) ?_
                  refine Goes.step (S' := s₁.setTop (mkF m 76 #[.val (.int p1)] [(.int (8 : Int32)), (.int p1)])) (fun t k => XS.bipush X0.here hx rfl (hb hby d1_74) k) ?_
                  by_cases c8 : p1 = (8 : Int32)
                  · refine Goes.step (S' := s₁.setTop (mkF m 79 #[.val (.int p1)] [])) (fun t k => XS.icmpNo X0.here hx rfl (hb hby d1_76) rfl (teq c8).2 k) ?_
                    obtain ⟨T9, X9, e9, st9⟩ := getS X0 hx hZ (host := "") hown (hw _ (List.mem_of_getElem? (i := 43) rfl)) Via.refl e0 S8 (g := (mkF m 79 #[.val (.int p1)] [])) rfl (hb hby d1_79)
                    refine Goes.step (S' := T9.setTop (mkF m 82 #[.val (.int p1)] [(.ref b8)])) (fun t k => st9 t k) ?_
                    obtain ⟨fs, hr, hrun, hended, hW, hsame⟩ := X9.leave (v := some (.ref b8)) (fun h => by rw [Bd.returns] at h; cases h)
                    exact ⟨_, _, retOut X9 hx Bd.returns rfl (Or.inr (Or.inr (Or.inr (Or.inr ⟨rfl, rfl, rfl⟩)))) (hb hby d1_82) hr, hrun, hended, _, _, rfl, ⟨by simp only [own_sel, if_neg c0, if_neg c1, if_neg c2, if_neg c3, if_neg c4, if_neg c5, if_neg c6, if_neg c7, if_pos c8], N0, e9⟩, ⟨_, rfl⟩, hW, hsame.mono (by decide) (by decide)⟩
                  · refine Goes.step (S' := s₁.setTop (mkF m 83 #[.val (.int p1)] [])) (fun t k => XS.icmpYes X0.here hx rfl (pc0 := 76) (pc' := 83) rfl (hb hby d1_76) rfl (feq c8).2 (by decide) (by decide) k) ?_
                    obtain ⟨T10, X10, e10, st10⟩ := getS X0 hx hZ (host := "") hown (hw _ (List.mem_of_getElem? (i := 45) rfl)) Via.refl e0 S9 (g := (mkF m 83 #[.val (.int p1)] [])) rfl (hb hby d1_83)
                    refine Goes.step (S' := T10.setTop (mkF m 86 #[.val (.int p1)] [(.ref b9)])) (fun t k => st10 t k) ?_
                    obtain ⟨fs, hr, hrun, hended, hW, hsame⟩ := X10.leave (v := some (.ref b9)) (fun h => by rw [Bd.returns] at h; cases h)
                    exact ⟨_, _, retOut X10 hx Bd.returns rfl (Or.inr (Or.inr (Or.inr (Or.inr ⟨rfl, rfl, rfl⟩)))) (hb hby d1_86) hr, hrun, hended, _, _, rfl, ⟨by simp only [own_sel, if_neg c0, if_neg c1, if_neg c2, if_neg c3, if_neg c4, if_neg c5, if_neg c6, if_neg c7, if_neg c8], N0, e10⟩, ⟨_, rfl⟩, hW, hsame.mono (by decide) (by decide)⟩
theorem d2_0 : decode prog_152_method_8_code 0 = .ok (.aload_n 0, 1) := by decide +kernel
theorem d2_1 : decode prog_152_method_8_code 1 = .ok (.getstatic 16, 3) := by decide +kernel
theorem d2_4 : decode prog_152_method_8_code 4 = .ok (.if_acmp .eq 10, 3) := by decide +kernel
theorem d2_7 : decode prog_152_method_8_code 7 = .ok (.aload_n 0, 1) := by decide +kernel
theorem d2_8 : decode prog_152_method_8_code 8 = .ok (.getstatic 19, 3) := by decide +kernel
theorem d2_11 : decode prog_152_method_8_code 11 = .ok (.if_acmp .ne 7, 3) := by decide +kernel
theorem d2_14 : decode prog_152_method_8_code 14 = .ok (.iconst 1, 1) := by decide +kernel
theorem d2_15 : decode prog_152_method_8_code 15 = .ok (.goto 4, 3) := by decide +kernel
theorem d2_18 : decode prog_152_method_8_code 18 = .ok (.iconst 0, 1) := by decide +kernel
theorem d2_19 : decode prog_152_method_8_code 19 = .ok (.ireturn, 1) := by decide +kernel
theorem pn_2 : plainName "com/example/querymorph/querymorph/generator/PostgresType" = true := by first | (simp [plainName, overriddenIn]; done) | decide +kernel
theorem pd_2 : parseMethodDescriptor "()Z" = some ⟨[], some .boolean⟩ := by decide +kernel
theorem ef_2 (m : MethodId) (y0 : Addr) : entryFrame m #[(.ref y0)] 1 = mkF m 0 #[.val (.ref y0)] [] := by first | (simp [entryFrame, mkF, argsToLocals, Value.category]; done) | rfl
def Q2 (Z : State) (a1 : Addr) (b4 : Addr) (b5 : Addr) (h0 : Heap) (n0 : Nat) (v : Option Value) (h : Heap) (L : List Loc) : Prop := v = some (.int (own_isf a1 b4 b5)) ∧ Fr n0 L ∧ h = h0
def R2 (Z : State) (a1 : Addr) (b4 : Addr) (b5 : Addr) (h0 : Heap) (n0 : Nat) (U : State) (U' : State) (o : Outcome) : Prop := ∃ v L, o = .returned v ∧ Q2 Z a1 b4 b5 h0 n0 v U'.heap L ∧ FrameEnd U o U' L ({ frames := 0, cells := 0, slots := 0, locals := 0 } : Room).cells ({ frames := 0, cells := 0, slots := 0, locals := 0 } : Room).slots
set_option maxRecDepth 65536 in
set_option maxHeartbeats 40000000 in
theorem rm2 (l : Launch) (Z : State) (a0 : Array Value) (hw : ∀ d ∈ tables_1, d.before a0 Z = true) (ws : List Jvm.Cond) (a1 : Addr) (b4 : Addr) (b5 : Addr) (h0 : Heap) (n0 : Nat) (Z0 : n0 ≤ h0.size) (S4 : (Sta Z h0 "com/example/querymorph/querymorph/generator/PostgresType" "REAL" "Lcom/example/querymorph/querymorph/generator/PostgresType;" (.ref b4))) (S5 : (Sta Z h0 "com/example/querymorph/querymorph/generator/PostgresType" "DOUBLE" "Lcom/example/querymorph/querymorph/generator/PostgresType;" (.ref b5))) :
    MetFree l (⟨"com/example/querymorph/querymorph/generator/PostgresType", "isFloat", "()Z"⟩ : MethodName) (head1 (Jvm.Cond.code (⟨"com/example/querymorph/querymorph/generator/PostgresType", "isFloat", "()Z"⟩ : MethodName) prog_152_method_8_code 1 (some .boolean) :: ws) ({ frames := 0, cells := 0, slots := 0, locals := 0 } : Room)) (fun a U => a = #[(.ref a1)] ∧ Z.Warmed39 U.vm ∧ U.heap = h0) (fun _ _ _ _ _ => True) (fun _ U o U' => ∃ v L, o = .returned v ∧ Q2 Z a1 b4 b5 h0 n0 v U'.heap L ∧ FrameEnd U o U' L ({ frames := 0, cells := 0, slots := 0, locals := 0 } : Room).cells ({ frames := 0, cells := 0, slots := 0, locals := 0 } : Room).slots) := by
  refine MetFree.of_bodySF (plainFor_of_name pn_2) hisR ?_
  intro p e s m args below meth c s₁ Bd hml0 hP hK
  obtain ⟨rfl, hZ, hh⟩ := hP
  have hx := Bd.exec
  have hby := Bd.bytes
  have hml : c.maxLocals = 1 := hml0
  have hown : s.vm.findClass "com/example/querymorph/querymorph/generator/PostgresType" = some m.cls := findClass_of_methodNamed Bd.named
  have hnm := (name_of_methodNamed Bd.named Bd.method).1
  have X0 : Stand p l e ({ frames := 0, cells := 0, slots := 0, locals := 0 } : Room) s m #[(.ref a1)] below meth c s₁ [] 0 0 := Stand.of_body Bd
  have e0 : s₁.heap = h0 := by rw [← hh, Bd.state]; rfl
  have N0 := Fr.nil n0
  show Goes p e below (R2 Z a1 b4 b5 h0 n0 s) (s₁.setTop (entryFrame m #[(.ref a1)] 1))
  refine Goes.step (S' := s₁.setTop (mkF m 0 #[.val (.ref a1)] [])) (fun t k => castTop (ef_2 m a1) k) ?_
  refine Goes.step (S' := s₁.setTop (mkF m 1 #[.val (.ref a1)] [(.ref a1)])) (fun t k => XS.aloadN X0.here hx rfl (hb hby d2_0) rfl rfl k) ?_
  obtain ⟨T11, X11, e11, st11⟩ := getS X0 hx hZ (host := "") hown (hw _ (List.mem_of_getElem? (i := 13) rfl)) Via.refl e0 S4 (g := (mkF m 1 #[.val (.ref a1)] [(.ref a1)])) rfl (hb hby d2_1)
  refine Goes.step (S' := T11.setTop (mkF m 4 #[.val (.ref a1)] [(.ref b4), (.ref a1)])) (fun t k => st11 t k) ?_
  by_cases c1 : a1 = b4
  · refine Goes.step (S' := T11.setTop (mkF m 14 #[.val (.ref a1)] [])) (fun t k => Jvm.RoadKit.acmp X11 hx rfl rfl rfl (pc0 := 4) (pc' := 14) (same := true) rfl (hb hby d2_4) rfl (decide_eq_true (congrArg Value.ref c1)) (by decide) (by decide) k) ?_
    refine Goes.step (S' := T11.setTop (mkF m 15 #[.val (.ref a1)] [(.int (1 : Int32))])) (fun t k => XS.iconst X11.here hx rfl (hb hby d2_14) k) ?_
    refine Goes.step (S' := T11.setTop (mkF m 19 #[.val (.ref a1)] [(.int (1 : Int32))])) (fun t k => XS.goto X11.here hx rfl (pc0 := 15) (pc' := 19) rfl (hb hby d2_15) (by decide) (by decide) k) ?_
    obtain ⟨fs, hr, hrun, hended, hW, hsame⟩ := X11.leave (v := some (.int (1 : Int32))) (fun h => by rw [Bd.returns] at h; cases h)
    exact ⟨_, _, retN X11 hx (t := .boolean) Bd.returns (by simp) (hb hby d2_19) hr, hrun, hended, _, _, rfl, ⟨by rw [own_isf_a c1], N0, e11⟩, ⟨_, rfl⟩, hW, hsame.mono (by decide) (by decide)⟩
  · refine Goes.step (S' := T11.setTop (mkF m 7 #[.val (.ref a1)] [])) (fun t k => Jvm.RoadKit.acmp X11 hx rfl rfl rfl (pc0 := 4) (pc' := 7) (same := false) rfl (hb hby d2_4) rfl (decide_eq_false (fun q => c1 (Value.ref.inj q))) (by decide) (by decide) k) ?_
    refine Goes.step (S' := T11.setTop (mkF m 8 #[.val (.ref a1)] [(.ref a1)])) (fun t k => XS.aloadN X11.here hx rfl (hb hby d2_7) rfl rfl k) ?_
    obtain ⟨T12, X12, e12, st12⟩ := getS X11 hx hZ (host := "") hown (hw _ (List.mem_of_getElem? (i := 15) rfl)) Via.refl e11 S5 (g := (mkF m 8 #[.val (.ref a1)] [(.ref a1)])) rfl (hb hby d2_8)
    refine Goes.step (S' := T12.setTop (mkF m 11 #[.val (.ref a1)] [(.ref b5), (.ref a1)])) (fun t k => st12 t k) ?_
    by_cases c2 : a1 = b5
    · refine Goes.step (S' := T12.setTop (mkF m 14 #[.val (.ref a1)] [])) (fun t k => Jvm.RoadKit.acmp X12 hx rfl rfl rfl (pc0 := 11) (pc' := 14) (same := true) rfl (hb hby d2_11) rfl (decide_eq_true (congrArg Value.ref c2)) (by decide) (by decide) k) ?_
      refine Goes.step (S' := T12.setTop (mkF m 15 #[.val (.ref a1)] [(.int (1 : Int32))])) (fun t k => XS.iconst X12.here hx rfl (hb hby d2_14) k) ?_
      refine Goes.step (S' := T12.setTop (mkF m 19 #[.val (.ref a1)] [(.int (1 : Int32))])) (fun t k => XS.goto X12.here hx rfl (pc0 := 15) (pc' := 19) rfl (hb hby d2_15) (by decide) (by decide) k) ?_
      obtain ⟨fs, hr, hrun, hended, hW, hsame⟩ := X12.leave (v := some (.int (1 : Int32))) (fun h => by rw [Bd.returns] at h; cases h)
      exact ⟨_, _, retN X12 hx (t := .boolean) Bd.returns (by simp) (hb hby d2_19) hr, hrun, hended, _, _, rfl, ⟨by rw [own_isf_b c1 c2], N0, e12⟩, ⟨_, rfl⟩, hW, hsame.mono (by decide) (by decide)⟩
    · refine Goes.step (S' := T12.setTop (mkF m 18 #[.val (.ref a1)] [])) (fun t k => Jvm.RoadKit.acmp X12 hx rfl rfl rfl (pc0 := 11) (pc' := 18) (same := false) rfl (hb hby d2_11) rfl (decide_eq_false (fun q => c2 (Value.ref.inj q))) (by decide) (by decide) k) ?_
      refine Goes.step (S' := T12.setTop (mkF m 19 #[.val (.ref a1)] [(.int (0 : Int32))])) (fun t k => XS.iconst X12.here hx rfl (hb hby d2_18) k) ?_
      obtain ⟨fs, hr, hrun, hended, hW, hsame⟩ := X12.leave (v := some (.int (0 : Int32))) (fun h => by rw [Bd.returns] at h; cases h)
      exact ⟨_, _, retN X12 hx (t := .boolean) Bd.returns (by simp) (hb hby d2_19) hr, hrun, hended, _, _, rfl, ⟨by rw [own_isf_0 c1 c2], N0, e12⟩, ⟨_, rfl⟩, hW, hsame.mono (by decide) (by decide)⟩
theorem d3_0 : decode prog_152_method_6_code 0 = .ok (.aload_n 0, 1) := by decide +kernel
theorem d3_1 : decode prog_152_method_6_code 1 = .ok (.getfield 57, 3) := by decide +kernel
theorem d3_4 : decode prog_152_method_6_code 4 = .ok (.areturn, 1) := by decide +kernel
theorem pn_3 : plainName "com/example/querymorph/querymorph/generator/PostgresType" = true := by first | (simp [plainName, overriddenIn]; done) | decide +kernel
theorem pd_3 : parseMethodDescriptor "()Lcom/example/querymorph/querymorph/generator/PostgresType$Category;" = some ⟨[], some (.object "com/example/querymorph/querymorph/generator/PostgresType$Category")⟩ := by decide +kernel
theorem ef_3 (m : MethodId) (y0 : Addr) : entryFrame m #[(.ref y0)] 1 = mkF m 0 #[.val (.ref y0)] [] := by first | (simp [entryFrame, mkF, argsToLocals, Value.category]; done) | rfl
def Q3 (Z : State) (a1 : Addr) (bN : Addr) (h0 : Heap) (n0 : Nat) (v : Option Value) (h : Heap) (L : List Loc) : Prop := v = some (.ref bN) ∧ Fr n0 L ∧ h = h0
def R3 (Z : State) (a1 : Addr) (bN : Addr) (h0 : Heap) (n0 : Nat) (U : State) (U' : State) (o : Outcome) : Prop := ∃ v L, o = .returned v ∧ Q3 Z a1 bN h0 n0 v U'.heap L ∧ FrameEnd U o U' L ({ frames := 0, cells := 0, slots := 0, locals := 0 } : Room).cells ({ frames := 0, cells := 0, slots := 0, locals := 0 } : Room).slots
set_option maxRecDepth 65536 in
set_option maxHeartbeats 40000000 in
theorem rm3 (l : Launch) (Z : State) (a0 : Array Value) (hw : ∀ d ∈ tables_1, d.before a0 Z = true) (ws : List Jvm.Cond) (a1 : Addr) (bN : Addr) (h0 : Heap) (n0 : Nat) (Z0 : n0 ≤ h0.size) (F1 : (Fld Z h0 a1 "com/example/querymorph/querymorph/generator/PostgresType" "category" "Lcom/example/querymorph/querymorph/generator/PostgresType$Category;" (.ref bN))) :
    MetFree l (⟨"com/example/querymorph/querymorph/generator/PostgresType", "category", "()Lcom/example/querymorph/querymorph/generator/PostgresType$Category;"⟩ : MethodName) (head1 (Jvm.Cond.code (⟨"com/example/querymorph/querymorph/generator/PostgresType", "category", "()Lcom/example/querymorph/querymorph/generator/PostgresType$Category;"⟩ : MethodName) prog_152_method_6_code 1 (some (.object "com/example/querymorph/querymorph/generator/PostgresType$Category")) :: ws) ({ frames := 0, cells := 0, slots := 0, locals := 0 } : Room)) (fun a U => a = #[(.ref a1)] ∧ Z.Warmed39 U.vm ∧ U.heap = h0) (fun _ _ _ _ _ => True) (fun _ U o U' => ∃ v L, o = .returned v ∧ Q3 Z a1 bN h0 n0 v U'.heap L ∧ FrameEnd U o U' L ({ frames := 0, cells := 0, slots := 0, locals := 0 } : Room).cells ({ frames := 0, cells := 0, slots := 0, locals := 0 } : Room).slots) := by
  refine MetFree.of_bodySF (plainFor_of_name pn_3) hisR ?_
  intro p e s m args below meth c s₁ Bd hml0 hP hK
  obtain ⟨rfl, hZ, hh⟩ := hP
  have hx := Bd.exec
  have hby := Bd.bytes
  have hml : c.maxLocals = 1 := hml0
  have hown : s.vm.findClass "com/example/querymorph/querymorph/generator/PostgresType" = some m.cls := findClass_of_methodNamed Bd.named
  have hnm := (name_of_methodNamed Bd.named Bd.method).1
  have X0 : Stand p l e ({ frames := 0, cells := 0, slots := 0, locals := 0 } : Room) s m #[(.ref a1)] below meth c s₁ [] 0 0 := Stand.of_body Bd
  have e0 : s₁.heap = h0 := by rw [← hh, Bd.state]; rfl
  have N0 := Fr.nil n0
  show Goes p e below (R3 Z a1 bN h0 n0 s) (s₁.setTop (entryFrame m #[(.ref a1)] 1))
  refine Goes.step (S' := s₁.setTop (mkF m 0 #[.val (.ref a1)] [])) (fun t k => castTop (ef_3 m a1) k) ?_
  refine Goes.step (S' := s₁.setTop (mkF m 1 #[.val (.ref a1)] [(.ref a1)])) (fun t k => XS.aloadN X0.here hx rfl (hb hby d3_0) rfl rfl k) ?_
  obtain ⟨T13, X13, e13, st13⟩ := getF X0 hx hZ hown (host := "") (Or.inl (hw _ (List.mem_of_getElem? (i := 27) rfl))) Via.refl e0 F1 (g := (mkF m 1 #[.val (.ref a1)] [(.ref a1)])) rfl rfl (hb hby d3_1)
  refine Goes.step (S' := T13.setTop (mkF m 4 #[.val (.ref a1)] [(.ref bN)])) (fun t k => st13 t k) ?_
  obtain ⟨fs, hr, hrun, hended, hW, hsame⟩ := X13.leave (v := some (.ref bN)) (fun h => by rw [Bd.returns] at h; cases h)
  exact ⟨_, _, retOut X13 hx Bd.returns rfl (Or.inr (Or.inr (Or.inr (Or.inr ⟨rfl, rfl, rfl⟩)))) (hb hby d3_4) hr, hrun, hended, _, _, rfl, ⟨rfl, N0, e13⟩, ⟨_, rfl⟩, hW, hsame.mono (by decide) (by decide)⟩
theorem d4_0 : decode prog_152_method_7_code 0 = .ok (.aload_n 0, 1) := by decide +kernel
theorem d4_1 : decode prog_152_method_7_code 1 = .ok (.getfield 61, 3) := by decide +kernel
theorem d4_4 : decode prog_152_method_7_code 4 = .ok (.ifnull 7, 3) := by decide +kernel
theorem d4_7 : decode prog_152_method_7_code 7 = .ok (.iconst 1, 1) := by decide +kernel
theorem d4_8 : decode prog_152_method_7_code 8 = .ok (.goto 4, 3) := by decide +kernel
theorem d4_11 : decode prog_152_method_7_code 11 = .ok (.iconst 0, 1) := by decide +kernel
theorem d4_12 : decode prog_152_method_7_code 12 = .ok (.ireturn, 1) := by decide +kernel
theorem pn_4 : plainName "com/example/querymorph/querymorph/generator/PostgresType" = true := by first | (simp [plainName, overriddenIn]; done) | decide +kernel
theorem pd_4 : parseMethodDescriptor "()Z" = some ⟨[], some .boolean⟩ := by decide +kernel
theorem ef_4 (m : MethodId) (y0 : Addr) : entryFrame m #[(.ref y0)] 1 = mkF m 0 #[.val (.ref y0)] [] := by first | (simp [entryFrame, mkF, argsToLocals, Value.category]; done) | rfl
def Q4 (Z : State) (a1 : Addr) (h0 : Heap) (n0 : Nat) (v : Option Value) (h : Heap) (L : List Loc) : Prop := v = some (.int 0) ∧ Fr n0 L ∧ h = h0
def R4 (Z : State) (a1 : Addr) (h0 : Heap) (n0 : Nat) (U : State) (U' : State) (o : Outcome) : Prop := ∃ v L, o = .returned v ∧ Q4 Z a1 h0 n0 v U'.heap L ∧ FrameEnd U o U' L ({ frames := 0, cells := 0, slots := 0, locals := 0 } : Room).cells ({ frames := 0, cells := 0, slots := 0, locals := 0 } : Room).slots
set_option maxRecDepth 65536 in
set_option maxHeartbeats 40000000 in
theorem rm4 (l : Launch) (Z : State) (a0 : Array Value) (hw : ∀ d ∈ tables_1, d.before a0 Z = true) (ws : List Jvm.Cond) (a1 : Addr) (h0 : Heap) (n0 : Nat) (Z0 : n0 ≤ h0.size) (F1 : (Fld Z h0 a1 "com/example/querymorph/querymorph/generator/PostgresType" "min" "Ljava/math/BigDecimal;" .null)) :
    MetFree l (⟨"com/example/querymorph/querymorph/generator/PostgresType", "isInteger", "()Z"⟩ : MethodName) (head1 (Jvm.Cond.code (⟨"com/example/querymorph/querymorph/generator/PostgresType", "isInteger", "()Z"⟩ : MethodName) prog_152_method_7_code 1 (some .boolean) :: ws) ({ frames := 0, cells := 0, slots := 0, locals := 0 } : Room)) (fun a U => a = #[(.ref a1)] ∧ Z.Warmed39 U.vm ∧ U.heap = h0) (fun _ _ _ _ _ => True) (fun _ U o U' => ∃ v L, o = .returned v ∧ Q4 Z a1 h0 n0 v U'.heap L ∧ FrameEnd U o U' L ({ frames := 0, cells := 0, slots := 0, locals := 0 } : Room).cells ({ frames := 0, cells := 0, slots := 0, locals := 0 } : Room).slots) := by
  refine MetFree.of_bodySF (plainFor_of_name pn_4) hisR ?_
  intro p e s m args below meth c s₁ Bd hml0 hP hK
  obtain ⟨rfl, hZ, hh⟩ := hP
  have hx := Bd.exec
  have hby := Bd.bytes
  have hml : c.maxLocals = 1 := hml0
  have hown : s.vm.findClass "com/example/querymorph/querymorph/generator/PostgresType" = some m.cls := findClass_of_methodNamed Bd.named
  have hnm := (name_of_methodNamed Bd.named Bd.method).1
  have X0 : Stand p l e ({ frames := 0, cells := 0, slots := 0, locals := 0 } : Room) s m #[(.ref a1)] below meth c s₁ [] 0 0 := Stand.of_body Bd
  have e0 : s₁.heap = h0 := by rw [← hh, Bd.state]; rfl
  have N0 := Fr.nil n0
  show Goes p e below (R4 Z a1 h0 n0 s) (s₁.setTop (entryFrame m #[(.ref a1)] 1))
  refine Goes.step (S' := s₁.setTop (mkF m 0 #[.val (.ref a1)] [])) (fun t k => castTop (ef_4 m a1) k) ?_
  refine Goes.step (S' := s₁.setTop (mkF m 1 #[.val (.ref a1)] [(.ref a1)])) (fun t k => XS.aloadN X0.here hx rfl (hb hby d4_0) rfl rfl k) ?_
  obtain ⟨T14, X14, e14, st14⟩ := getF X0 hx hZ hown (host := "") (Or.inl (hw _ (List.mem_of_getElem? (i := 37) rfl))) Via.refl e0 F1 (g := (mkF m 1 #[.val (.ref a1)] [(.ref a1)])) rfl rfl (hb hby d4_1)
  refine Goes.step (S' := T14.setTop (mkF m 4 #[.val (.ref a1)] [.null])) (fun t k => st14 t k) ?_
  refine Goes.step (S' := T14.setTop (mkF m 11 #[.val (.ref a1)] [])) (fun t k => XS.ifnullYes X14.here hx rfl (pc0 := 4) (pc' := 11) rfl (hb hby d4_4) rfl (by decide) (by decide) k) ?_
  refine Goes.step (S' := T14.setTop (mkF m 12 #[.val (.ref a1)] [(.int (0 : Int32))])) (fun t k => XS.iconst X14.here hx rfl (hb hby d4_11) k) ?_
  obtain ⟨fs, hr, hrun, hended, hW, hsame⟩ := X14.leave (v := some (.int (0 : Int32))) (fun h => by rw [Bd.returns] at h; cases h)
  exact ⟨_, _, retN X14 hx (t := .boolean) Bd.returns (by simp) (hb hby d4_12) hr, hrun, hended, _, _, rfl, ⟨rfl, N0, e14⟩, ⟨_, rfl⟩, hW, hsame.mono (by decide) (by decide)⟩
theorem pn_0 : plainName "com/example/querymorph/querymorph/generator/PostgresTypeIsFloatPinLaw" = true := by first | (simp [plainName, overriddenIn]; done) | decide +kernel
theorem pd_0 : parseMethodDescriptor "(I)Z" = some ⟨[.int], some .boolean⟩ := by decide +kernel
theorem ef_0 (m : MethodId) (y0 : Int32) : entryFrame m #[(.int y0)] maxLocals = mkF m 0 #[.val (.int y0), .unset, .unset, .unset, .unset] [] := by first | (simp [entryFrame, mkF, argsToLocals, Value.category, maxLocals]; done) | rfl
def Q0 (Z : State) (p1 : Int32) (b0 : Addr) (b1 : Addr) (b2 : Addr) (b3 : Addr) (b4 : Addr) (b5 : Addr) (b6 : Addr) (b7 : Addr) (b8 : Addr) (b9 : Addr) (bN : Addr) (h0 : Heap) (n0 : Nat) (v : Option Value) (h : Heap) (L : List Loc) : Prop := v = some (.int 1) ∧ Fr n0 L
def R0 (Z : State) (p1 : Int32) (b0 : Addr) (b1 : Addr) (b2 : Addr) (b3 : Addr) (b4 : Addr) (b5 : Addr) (b6 : Addr) (b7 : Addr) (b8 : Addr) (b9 : Addr) (bN : Addr) (h0 : Heap) (n0 : Nat) (U : State) (U' : State) (o : Outcome) : Prop := ∃ v L, o = .returned v ∧ Q0 Z p1 b0 b1 b2 b3 b4 b5 b6 b7 b8 b9 bN h0 n0 v U'.heap L ∧ FrameEnd U o U' L room_1.cells room_1.slots
set_option maxRecDepth 65536 in
set_option maxHeartbeats 40000000 in
theorem rm0 (l : Launch) (Z : State) (a0 : Array Value) (hw : ∀ d ∈ tables_1, d.before a0 Z = true) (ws : List Jvm.Cond) (p1 : Int32) (b0 : Addr) (b1 : Addr) (b2 : Addr) (b3 : Addr) (b4 : Addr) (b5 : Addr) (b6 : Addr) (b7 : Addr) (b8 : Addr) (b9 : Addr) (bN : Addr) (h0 : Heap) (n0 : Nat) (Z0 : n0 ≤ h0.size) (S0 : (Sta Z h0 "com/example/querymorph/querymorph/generator/PostgresType" "SMALLINT" "Lcom/example/querymorph/querymorph/generator/PostgresType;" (.ref b0))) (S1 : (Sta Z h0 "com/example/querymorph/querymorph/generator/PostgresType" "INTEGER" "Lcom/example/querymorph/querymorph/generator/PostgresType;" (.ref b1))) (S2 : (Sta Z h0 "com/example/querymorph/querymorph/generator/PostgresType" "BIGINT" "Lcom/example/querymorph/querymorph/generator/PostgresType;" (.ref b2))) (S3 : (Sta Z h0 "com/example/querymorph/querymorph/generator/PostgresType" "NUMERIC" "Lcom/example/querymorph/querymorph/generator/PostgresType;" (.ref b3))) (S4 : (Sta Z h0 "com/example/querymorph/querymorph/generator/PostgresType" "REAL" "Lcom/example/querymorph/querymorph/generator/PostgresType;" (.ref b4))) (S5 : (Sta Z h0 "com/example/querymorph/querymorph/generator/PostgresType" "DOUBLE" "Lcom/example/querymorph/querymorph/generator/PostgresType;" (.ref b5))) (S6 : (Sta Z h0 "com/example/querymorph/querymorph/generator/PostgresType" "TEXT" "Lcom/example/querymorph/querymorph/generator/PostgresType;" (.ref b6))) (S7 : (Sta Z h0 "com/example/querymorph/querymorph/generator/PostgresType" "BOOLEAN" "Lcom/example/querymorph/querymorph/generator/PostgresType;" (.ref b7))) (S8 : (Sta Z h0 "com/example/querymorph/querymorph/generator/PostgresType" "DATE" "Lcom/example/querymorph/querymorph/generator/PostgresType;" (.ref b8))) (S9 : (Sta Z h0 "com/example/querymorph/querymorph/generator/PostgresType" "TIMESTAMP" "Lcom/example/querymorph/querymorph/generator/PostgresType;" (.ref b9))) (SN : (Sta Z h0 "com/example/querymorph/querymorph/generator/PostgresType$Category" "NUMBER" "Lcom/example/querymorph/querymorph/generator/PostgresType$Category;" (.ref bN))) (E0 : Exa Z h0 b0 "com/example/querymorph/querymorph/generator/PostgresType") (E1 : Exa Z h0 b1 "com/example/querymorph/querymorph/generator/PostgresType") (E2 : Exa Z h0 b2 "com/example/querymorph/querymorph/generator/PostgresType") (E3 : Exa Z h0 b3 "com/example/querymorph/querymorph/generator/PostgresType") (E4 : Exa Z h0 b4 "com/example/querymorph/querymorph/generator/PostgresType") (E5 : Exa Z h0 b5 "com/example/querymorph/querymorph/generator/PostgresType") (E6 : Exa Z h0 b6 "com/example/querymorph/querymorph/generator/PostgresType") (E7 : Exa Z h0 b7 "com/example/querymorph/querymorph/generator/PostgresType") (E8 : Exa Z h0 b8 "com/example/querymorph/querymorph/generator/PostgresType") (E9 : Exa Z h0 b9 "com/example/querymorph/querymorph/generator/PostgresType") (n04 : ¬ b0 = b4) (n05 : ¬ b0 = b5) (n14 : ¬ b1 = b4) (n15 : ¬ b1 = b5) (n24 : ¬ b2 = b4) (n25 : ¬ b2 = b5) (n34 : ¬ b3 = b4) (n35 : ¬ b3 = b5) (n64 : ¬ b6 = b4) (n65 : ¬ b6 = b5) (n74 : ¬ b7 = b4) (n75 : ¬ b7 = b5) (n84 : ¬ b8 = b4) (n85 : ¬ b8 = b5) (n94 : ¬ b9 = b4) (n95 : ¬ b9 = b5) (n54 : ¬ b5 = b4) (C4 : (Fld Z h0 b4 "com/example/querymorph/querymorph/generator/PostgresType" "category" "Lcom/example/querymorph/querymorph/generator/PostgresType$Category;" (.ref bN))) (M4 : (Fld Z h0 b4 "com/example/querymorph/querymorph/generator/PostgresType" "min" "Ljava/math/BigDecimal;" .null)) (C5 : (Fld Z h0 b5 "com/example/querymorph/querymorph/generator/PostgresType" "category" "Lcom/example/querymorph/querymorph/generator/PostgresType$Category;" (.ref bN))) (M5 : (Fld Z h0 b5 "com/example/querymorph/querymorph/generator/PostgresType" "min" "Ljava/math/BigDecimal;" .null)) :
    MetFree l x (head1 (Jvm.Cond.code x code maxLocals ret :: ws) room_1) (fun a U => a = #[(.int p1)] ∧ Z.Warmed39 U.vm ∧ U.heap = h0) (fun _ _ _ _ _ => True) (fun _ U o U' => ∃ v L, o = .returned v ∧ Q0 Z p1 b0 b1 b2 b3 b4 b5 b6 b7 b8 b9 bN h0 n0 v U'.heap L ∧ FrameEnd U o U' L room_1.cells room_1.slots) := by
  refine MetFree.of_bodySF (plainFor_of_name pn_0) hisR ?_
  intro p e s m args below meth c s₁ Bd hml0 hP hK
  obtain ⟨rfl, hZ, hh⟩ := hP
  have hx := Bd.exec
  have hby := Bd.bytes
  have hml : c.maxLocals = 5 := hml0
  have hown : s.vm.findClass "com/example/querymorph/querymorph/generator/PostgresTypeIsFloatPinLaw" = some m.cls := findClass_of_methodNamed Bd.named
  have hnm := (name_of_methodNamed Bd.named Bd.method).1
  have X0 : Stand p l e room_1 s m #[(.int p1)] below meth c s₁ [] 0 0 := Stand.of_body Bd
  have e0 : s₁.heap = h0 := by rw [← hh, Bd.state]; rfl
  have N0 := Fr.nil n0
  show Goes p e below (R0 Z p1 b0 b1 b2 b3 b4 b5 b6 b7 b8 b9 bN h0 n0 s) (s₁.setTop (entryFrame m #[(.int p1)] maxLocals))
  refine Goes.step (S' := s₁.setTop (mkF m 0 #[.val (.int p1), .unset, .unset, .unset, .unset] [])) (fun t k => castTop (ef_0 m p1) k) ?_
  refine Goes.step (S' := s₁.setTop (mkF m 1 #[.val (.int p1), .unset, .unset, .unset, .unset] [(.int p1)])) (fun t k => XS.iloadN X0.here hx rfl (hb hby at_0) rfl k) ?_
  refine Goes.step (S' := s₁.setTop (mkF m 3 #[.val (.int p1), .unset, .unset, .unset, .unset] [(.int (2147483647 : Int32)), (.int p1)])) (fun t k => X0.ldcInt hx hown (mvT hZ (hw _ (List.mem_of_getElem? (i := 0) rfl))) (g := (mkF m 1 #[.val (.int p1), .unset, .unset, .unset, .unset] [(.int p1)])) rfl (hb hby at_1) _ k) ?_
  refine Goes.step (S' := s₁.setTop (mkF m 4 #[.val (.int p1), .unset, .unset, .unset, .unset] [(.int (p1 &&& (2147483647 : Int32)))])) (fun t k => XS.iand X0.here hx rfl (hb hby at_3) rfl k) ?_
  refine Goes.step (S' := s₁.setTop (mkF m 6 #[.val (.int p1), .unset, .unset, .unset, .unset] [(.int (10 : Int32)), (.int (p1 &&& (2147483647 : Int32)))])) (fun t k => XS.bipush X0.here hx rfl (hb hby at_4) k) ?_
  refine Goes.step (S' := s₁.setTop (mkF m 7 #[.val (.int p1), .unset, .unset, .unset, .unset] [(.int ((p1 &&& (2147483647 : Int32)) % (10 : Int32)))])) (fun t k => iremM X0 hx rfl (hb hby at_6) rfl (by decide) k) ?_
  refine Goes.step (S' := s₁.setTop (mkF m 8 #[.val (.int p1), .val (.int ((p1 &&& (2147483647 : Int32)) % (10 : Int32))), .unset, .unset, .unset] [])) (fun t k => XS.istoreN X0.here hx rfl (hb hby at_7) rfl (l' := #[.val (.int p1), .val (.int ((p1 &&& (2147483647 : Int32)) % (10 : Int32))), .unset, .unset, .unset]) rfl k) ?_
  refine Goes.step (S' := s₁.setTop (mkF m 9 #[.val (.int p1), .val (.int ((p1 &&& (2147483647 : Int32)) % (10 : Int32))), .unset, .unset, .unset] [(.int ((p1 &&& (2147483647 : Int32)) % (10 : Int32)))])) (fun t k => XS.iloadN X0.here hx rfl (hb hby at_8) rfl k) ?_
  obtain ⟨_, _, ⟨T15, L15, k15, n15⟩, -, X15, ⟨Lc15, hQ15, l15, y15, z15⟩, st15⟩ := Jvm.LawKit.callS X0 hx (y := (⟨"com/example/querymorph/querymorph/generator/PostgresTypeIsFloatPinLaw", "pick", "(I)Lcom/example/querymorph/querymorph/generator/PostgresType;"⟩ : MethodName)) hown (mvT hZ (hw _ (List.mem_of_getElem? (i := 1) rfl))) (mvT hZ (hw _ (List.mem_of_getElem? (i := 2) rfl))) (mvT hZ (hw _ (List.mem_of_getElem? (i := 3) rfl))) (mvT hZ (hw _ (List.mem_of_getElem? (i := 4) rfl))) (by decide) (backOf (W := 0) (rm1 l Z a0 hw [] ((p1 &&& (2147483647 : Int32)) % (10 : Int32)) b0 b1 b2 b3 b4 b5 b6 b7 b8 b9 h0 n0 Z0 S0 S1 S2 S3 S4 S5 S6 S7 S8 S9) hZ (hw _ (List.mem_of_getElem? (i := 4) rfl)) (hw _ (List.mem_of_getElem? (i := 3) rfl)) (by decide) (by decide)) (g := (mkF m 9 #[.val (.int p1), .val (.int ((p1 &&& (2147483647 : Int32)) % (10 : Int32))), .unset, .unset, .unset] [(.int ((p1 &&& (2147483647 : Int32)) % (10 : Int32)))])) rfl (by rw [hml]; rfl) (argsL := [(.int ((p1 &&& (2147483647 : Int32)) % (10 : Int32)))]) (rest := []) (lenOf pd_1 rfl) rfl (by show 2 * 0 + _ ≤ _; exact Nat.le_of_eq rfl) (hb hby at_9) (fun _ _ => ⟨rfl, e0, (by decide : 0 + 0 ≤ _), (by decide : 0 + 0 ≤ _)⟩)
  dsimp only [Pt.U, Pt.locs, Pt.cells, Pt.slots] at X15 l15 y15 z15 st15 hQ15
  subst l15 y15 z15
  obtain ⟨rfl, N15q, e15⟩ := hQ15
  have N15 := Fr.app N0 N15q
  refine Goes.step (S' := T15.setTop (mkF m 12 #[.val (.int p1), .val (.int ((p1 &&& (2147483647 : Int32)) % (10 : Int32))), .unset, .unset, .unset] [(.ref (own_sel ((p1 &&& (2147483647 : Int32)) % (10 : Int32)) b0 b1 b2 b3 b4 b5 b6 b7 b8 b9))])) (fun t k => st15 t k) ?_
  by_cases k4 : ((p1 &&& (2147483647 : Int32)) % (10 : Int32)) = (4 : Int32)
  · rw [own_sel_4 k4 b0 b1 b2 b3 b4 b5 b6 b7 b8 b9]
    show Goes p e below (R0 Z p1 b0 b1 b2 b3 b4 b5 b6 b7 b8 b9 bN h0 n0 s) (T15.setTop (mkF m 12 #[.val (.int p1), .val (.int ((p1 &&& (2147483647 : Int32)) % (10 : Int32))), .unset, .unset, .unset] [(.ref b4)]))
    refine Goes.step (S' := T15.setTop (mkF m 13 #[.val (.int p1), .val (.int ((p1 &&& (2147483647 : Int32)) % (10 : Int32))), .val (.ref b4), .unset, .unset] [])) (fun t k => XS.astoreN X15.here hx rfl (hb hby at_12) rfl rfl (l' := #[.val (.int p1), .val (.int ((p1 &&& (2147483647 : Int32)) % (10 : Int32))), .val (.ref b4), .unset, .unset]) rfl k) ?_
    refine Goes.step (S' := T15.setTop (mkF m 14 #[.val (.int p1), .val (.int ((p1 &&& (2147483647 : Int32)) % (10 : Int32))), .val (.ref b4), .unset, .unset] [(.int ((p1 &&& (2147483647 : Int32)) % (10 : Int32)))])) (fun t k => XS.iloadN X15.here hx rfl (hb hby at_13) rfl k) ?_
    refine Goes.step (S' := T15.setTop (mkF m 15 #[.val (.int p1), .val (.int ((p1 &&& (2147483647 : Int32)) % (10 : Int32))), .val (.ref b4), .unset, .unset] [(.int (4 : Int32)), (.int ((p1 &&& (2147483647 : Int32)) % (10 : Int32)))])) (fun t k => XS.iconst X15.here hx rfl (hb hby at_14) k) ?_
    refine Goes.step (S' := T15.setTop (mkF m 23 #[.val (.int p1), .val (.int ((p1 &&& (2147483647 : Int32)) % (10 : Int32))), .val (.ref b4), .unset, .unset] [])) (fun t k => XS.icmpYes X15.here hx rfl (pc0 := 15) (pc' := 23) rfl (hb hby at_15) rfl (teq k4).1 (by decide) (by decide) k) ?_
    refine Goes.step (S' := T15.setTop (mkF m 24 #[.val (.int p1), .val (.int ((p1 &&& (2147483647 : Int32)) % (10 : Int32))), .val (.ref b4), .unset, .unset] [(.int (1 : Int32))])) (fun t k => XS.iconst X15.here hx rfl (hb hby at_23) k) ?_
    refine Goes.step (S' := T15.setTop (mkF m 28 #[.val (.int p1), .val (.int ((p1 &&& (2147483647 : Int32)) % (10 : Int32))), .val (.ref b4), .unset, .unset] [(.int (1 : Int32))])) (fun t k => XS.goto X15.here hx rfl (pc0 := 24) (pc' := 28) rfl (hb hby at_24) (by decide) (by decide) k) ?_
    refine Goes.step (S' := T15.setTop (mkF m 29 #[.val (.int p1), .val (.int ((p1 &&& (2147483647 : Int32)) % (10 : Int32))), .val (.ref b4), .val (.int (1 : Int32)), .unset] [])) (fun t k => XS.istoreN X15.here hx rfl (hb hby at_28) rfl (l' := #[.val (.int p1), .val (.int ((p1 &&& (2147483647 : Int32)) % (10 : Int32))), .val (.ref b4), .val (.int (1 : Int32)), .unset]) rfl k) ?_
    refine Goes.step (S' := T15.setTop (mkF m 30 #[.val (.int p1), .val (.int ((p1 &&& (2147483647 : Int32)) % (10 : Int32))), .val (.ref b4), .val (.int (1 : Int32)), .unset] [(.ref b4)])) (fun t k => XS.aloadN X15.here hx rfl (hb hby at_29) rfl rfl k) ?_
    obtain ⟨cq16, kq16, q16a, q16b, q16c⟩ := isOf hZ e15 E4
    obtain ⟨_, _, ⟨T16, L16, k16, n16⟩, -, X16, ⟨Lc16, hQ16, l16, y16, z16⟩, st16⟩ := X15.virtualBack hx (y := (⟨"com/example/querymorph/querymorph/generator/PostgresType", "isFloat", "()Z"⟩ : MethodName)) (z := (⟨"com/example/querymorph/querymorph/generator/PostgresType", "isFloat", "()Z"⟩ : MethodName)) hown (mvT hZ (hw _ (List.mem_of_getElem? (i := 8) rfl))) (mvT hZ (hw _ (List.mem_of_getElem? (i := 9) rfl))) (notFace_of_selects (args := #[]) (mvT hZ (hw _ (List.mem_of_getElem? (i := 11) rfl)))) (mvT hZ (hw _ (List.mem_of_getElem? (i := 11) rfl))) (mvT hZ (hw _ (List.mem_of_getElem? (i := 10) rfl))) (by decide) (backOf (W := 0) (rm2 l Z a0 hw [] b4 b4 b5 h0 n0 Z0 S4 S5) hZ (hw _ (List.mem_of_getElem? (i := 12) rfl)) (hw _ (List.mem_of_getElem? (i := 6) rfl)) (by decide) (by decide)) q16a q16c (g := (mkF m 30 #[.val (.int p1), .val (.int ((p1 &&& (2147483647 : Int32)) % (10 : Int32))), .val (.ref b4), .val (.int (1 : Int32)), .unset] [(.ref b4)])) rfl (by rw [hml]; rfl) (Steps.refl _) (argsL := []) (rest := []) (lenOf pd_2 rfl) rfl (by show 2 * 0 + _ ≤ _; exact Nat.le_of_eq rfl) (hb hby at_30) (fun _ _ => ⟨rfl, e15, (by decide : 0 + 0 ≤ _), (by decide : 0 + 0 ≤ _)⟩)
    dsimp only [Pt.U, Pt.locs, Pt.cells, Pt.slots] at X16 l16 y16 z16 st16 hQ16
    subst l16 y16 z16
    obtain ⟨rfl, N16q, e16⟩ := hQ16
    have N16 := Fr.app N15 N16q
    refine Goes.step (S' := T16.setTop (mkF m 33 #[.val (.int p1), .val (.int ((p1 &&& (2147483647 : Int32)) % (10 : Int32))), .val (.ref b4), .val (.int (1 : Int32)), .unset] [(.int (own_isf b4 b4 b5))])) (fun t k => st16.trans k) ?_
    rw [own_isf_4 b4 b5]
    show Goes p e below (R0 Z p1 b0 b1 b2 b3 b4 b5 b6 b7 b8 b9 bN h0 n0 s) (T16.setTop (mkF m 33 #[.val (.int p1), .val (.int ((p1 &&& (2147483647 : Int32)) % (10 : Int32))), .val (.ref b4), .val (.int (1 : Int32)), .unset] [(.int (1 : Int32))]))
    refine Goes.step (S' := T16.setTop (mkF m 35 #[.val (.int p1), .val (.int ((p1 &&& (2147483647 : Int32)) % (10 : Int32))), .val (.ref b4), .val (.int (1 : Int32)), .val (.int (1 : Int32))] [])) (fun t k => XS.istore X16.here hx rfl (hb hby at_33) rfl (l' := #[.val (.int p1), .val (.int ((p1 &&& (2147483647 : Int32)) % (10 : Int32))), .val (.ref b4), .val (.int (1 : Int32)), .val (.int (1 : Int32))]) rfl k) ?_
    refine Goes.step (S' := T16.setTop (mkF m 37 #[.val (.int p1), .val (.int ((p1 &&& (2147483647 : Int32)) % (10 : Int32))), .val (.ref b4), .val (.int (1 : Int32)), .val (.int (1 : Int32))] [(.int (1 : Int32))])) (fun t k => XS.iload X16.here hx rfl (hb hby at_35) rfl k) ?_
    refine Goes.step (S' := T16.setTop (mkF m 38 #[.val (.int p1), .val (.int ((p1 &&& (2147483647 : Int32)) % (10 : Int32))), .val (.ref b4), .val (.int (1 : Int32)), .val (.int (1 : Int32))] [(.int (1 : Int32)), (.int (1 : Int32))])) (fun t k => XS.iloadN X16.here hx rfl (hb hby at_37) rfl k) ?_
    refine Goes.step (S' := T16.setTop (mkF m 43 #[.val (.int p1), .val (.int ((p1 &&& (2147483647 : Int32)) % (10 : Int32))), .val (.ref b4), .val (.int (1 : Int32)), .val (.int (1 : Int32))] [])) (fun t k => XS.icmpYes X16.here hx rfl (pc0 := 38) (pc' := 43) rfl (hb hby at_38) rfl (teq rfl).1 (by decide) (by decide) k) ?_
    refine Goes.step (S' := T16.setTop (mkF m 45 #[.val (.int p1), .val (.int ((p1 &&& (2147483647 : Int32)) % (10 : Int32))), .val (.ref b4), .val (.int (1 : Int32)), .val (.int (1 : Int32))] [(.int (1 : Int32))])) (fun t k => XS.iload X16.here hx rfl (hb hby at_43) rfl k) ?_
    refine Goes.step (S' := T16.setTop (mkF m 48 #[.val (.int p1), .val (.int ((p1 &&& (2147483647 : Int32)) % (10 : Int32))), .val (.ref b4), .val (.int (1 : Int32)), .val (.int (1 : Int32))] [])) (fun t k => XS.ifNo X16.here hx rfl (hb hby at_45) rfl ((if0 _ _).trans (feq (by decide : ¬ (1 : Int32) = (0 : Int32))).1) k) ?_
    refine Goes.step (S' := T16.setTop (mkF m 49 #[.val (.int p1), .val (.int ((p1 &&& (2147483647 : Int32)) % (10 : Int32))), .val (.ref b4), .val (.int (1 : Int32)), .val (.int (1 : Int32))] [(.ref b4)])) (fun t k => XS.aloadN X16.here hx rfl (hb hby at_48) rfl rfl k) ?_
    obtain ⟨cq17, kq17, q17a, q17b, q17c⟩ := isOf hZ e16 E4
    obtain ⟨_, _, ⟨T17, L17, k17, n17⟩, -, X17, ⟨Lc17, hQ17, l17, y17, z17⟩, st17⟩ := X16.virtualBack hx (y := (⟨"com/example/querymorph/querymorph/generator/PostgresType", "category", "()Lcom/example/querymorph/querymorph/generator/PostgresType$Category;"⟩ : MethodName)) (z := (⟨"com/example/querymorph/querymorph/generator/PostgresType", "category", "()Lcom/example/querymorph/querymorph/generator/PostgresType$Category;"⟩ : MethodName)) hown (mvT hZ (hw _ (List.mem_of_getElem? (i := 22) rfl))) (mvT hZ (hw _ (List.mem_of_getElem? (i := 23) rfl))) (notFace_of_selects (args := #[]) (mvT hZ (hw _ (List.mem_of_getElem? (i := 25) rfl)))) (mvT hZ (hw _ (List.mem_of_getElem? (i := 25) rfl))) (mvT hZ (hw _ (List.mem_of_getElem? (i := 24) rfl))) (by decide) (backOf (W := 0) (rm3 l Z a0 hw [] b4 bN h0 n0 Z0 C4) hZ (hw _ (List.mem_of_getElem? (i := 26) rfl)) (hw _ (List.mem_of_getElem? (i := 6) rfl)) (by decide) (by decide)) q17a q17c (g := (mkF m 49 #[.val (.int p1), .val (.int ((p1 &&& (2147483647 : Int32)) % (10 : Int32))), .val (.ref b4), .val (.int (1 : Int32)), .val (.int (1 : Int32))] [(.ref b4)])) rfl (by rw [hml]; rfl) (Steps.refl _) (argsL := []) (rest := []) (lenOf pd_3 rfl) rfl (by show 2 * 0 + _ ≤ _; exact Nat.le_of_eq rfl) (hb hby at_49) (fun _ _ => ⟨rfl, e16, (by decide : 0 + 0 ≤ _), (by decide : 0 + 0 ≤ _)⟩)
    dsimp only [Pt.U, Pt.locs, Pt.cells, Pt.slots] at X17 l17 y17 z17 st17 hQ17
    subst l17 y17 z17
    obtain ⟨rfl, N17q, e17⟩ := hQ17
    have N17 := Fr.app N16 N17q
    refine Goes.step (S' := T17.setTop (mkF m 52 #[.val (.int p1), .val (.int ((p1 &&& (2147483647 : Int32)) % (10 : Int32))), .val (.ref b4), .val (.int (1 : Int32)), .val (.int (1 : Int32))] [(.ref bN)])) (fun t k => st17.trans k) ?_
    obtain ⟨T18, X18, e18, st18⟩ := getS X17 hx hZ (host := "") hown (hw _ (List.mem_of_getElem? (i := 31) rfl)) Via.refl e17 SN (g := (mkF m 52 #[.val (.int p1), .val (.int ((p1 &&& (2147483647 : Int32)) % (10 : Int32))), .val (.ref b4), .val (.int (1 : Int32)), .val (.int (1 : Int32))] [(.ref bN)])) rfl (hb hby at_52)
    refine Goes.step (S' := T18.setTop (mkF m 55 #[.val (.int p1), .val (.int ((p1 &&& (2147483647 : Int32)) % (10 : Int32))), .val (.ref b4), .val (.int (1 : Int32)), .val (.int (1 : Int32))] [(.ref bN), (.ref bN)])) (fun t k => st18 t k) ?_
    refine Goes.step (S' := T18.setTop (mkF m 58 #[.val (.int p1), .val (.int ((p1 &&& (2147483647 : Int32)) % (10 : Int32))), .val (.ref b4), .val (.int (1 : Int32)), .val (.int (1 : Int32))] [])) (fun t k => Jvm.RoadKit.acmp X18 hx rfl rfl rfl (pc0 := 55) (pc' := 58) (same := true) rfl (hb hby at_55) rfl (decide_eq_true (congrArg Value.ref rfl)) (by decide) (by decide) k) ?_
    refine Goes.step (S' := T18.setTop (mkF m 59 #[.val (.int p1), .val (.int ((p1 &&& (2147483647 : Int32)) % (10 : Int32))), .val (.ref b4), .val (.int (1 : Int32)), .val (.int (1 : Int32))] [(.ref b4)])) (fun t k => XS.aloadN X18.here hx rfl (hb hby at_58) rfl rfl k) ?_
    obtain ⟨cq19, kq19, q19a, q19b, q19c⟩ := isOf hZ e18 E4
    obtain ⟨_, _, ⟨T19, L19, k19, n19⟩, -, X19, ⟨Lc19, hQ19, l19, y19, z19⟩, st19⟩ := X18.virtualBack hx (y := (⟨"com/example/querymorph/querymorph/generator/PostgresType", "isInteger", "()Z"⟩ : MethodName)) (z := (⟨"com/example/querymorph/querymorph/generator/PostgresType", "isInteger", "()Z"⟩ : MethodName)) hown (mvT hZ (hw _ (List.mem_of_getElem? (i := 32) rfl))) (mvT hZ (hw _ (List.mem_of_getElem? (i := 33) rfl))) (notFace_of_selects (args := #[]) (mvT hZ (hw _ (List.mem_of_getElem? (i := 35) rfl)))) (mvT hZ (hw _ (List.mem_of_getElem? (i := 35) rfl))) (mvT hZ (hw _ (List.mem_of_getElem? (i := 34) rfl))) (by decide) (backOf (W := 0) (rm4 l Z a0 hw [] b4 h0 n0 Z0 M4) hZ (hw _ (List.mem_of_getElem? (i := 36) rfl)) (hw _ (List.mem_of_getElem? (i := 6) rfl)) (by decide) (by decide)) q19a q19c (g := (mkF m 59 #[.val (.int p1), .val (.int ((p1 &&& (2147483647 : Int32)) % (10 : Int32))), .val (.ref b4), .val (.int (1 : Int32)), .val (.int (1 : Int32))] [(.ref b4)])) rfl (by rw [hml]; rfl) (Steps.refl _) (argsL := []) (rest := []) (lenOf pd_4 rfl) rfl (by show 2 * 0 + _ ≤ _; exact Nat.le_of_eq rfl) (hb hby at_59) (fun _ _ => ⟨rfl, e18, (by decide : 0 + 0 ≤ _), (by decide : 0 + 0 ≤ _)⟩)
    dsimp only [Pt.U, Pt.locs, Pt.cells, Pt.slots] at X19 l19 y19 z19 st19 hQ19
    subst l19 y19 z19
    obtain ⟨rfl, N19q, e19⟩ := hQ19
    have N19 := Fr.app N17 N19q
    refine Goes.step (S' := T19.setTop (mkF m 62 #[.val (.int p1), .val (.int ((p1 &&& (2147483647 : Int32)) % (10 : Int32))), .val (.ref b4), .val (.int (1 : Int32)), .val (.int (1 : Int32))] [(.int (0 : Int32))])) (fun t k => st19.trans k) ?_
    refine Goes.step (S' := T19.setTop (mkF m 67 #[.val (.int p1), .val (.int ((p1 &&& (2147483647 : Int32)) % (10 : Int32))), .val (.ref b4), .val (.int (1 : Int32)), .val (.int (1 : Int32))] [])) (fun t k => XS.ifYes X19.here hx rfl (pc0 := 62) (pc' := 67) rfl (hb hby at_62) rfl ((if0 _ _).trans (teq rfl).1) (by decide) (by decide) k) ?_
    refine Goes.step (S' := T19.setTop (mkF m 68 #[.val (.int p1), .val (.int ((p1 &&& (2147483647 : Int32)) % (10 : Int32))), .val (.ref b4), .val (.int (1 : Int32)), .val (.int (1 : Int32))] [(.int (1 : Int32))])) (fun t k => XS.iconst X19.here hx rfl (hb hby at_67) k) ?_
    obtain ⟨fs, hr, hrun, hended, hW, hsame⟩ := X19.leave (v := some (.int (1 : Int32))) (fun h => by rw [Bd.returns] at h; cases h)
    exact ⟨_, _, retN X19 hx (t := .boolean) Bd.returns (by simp) (hb hby at_68) hr, hrun, hended, _, _, rfl, ⟨rfl, N19⟩, ⟨_, rfl⟩, hW, hsame.mono (by decide) (by decide)⟩
  · by_cases k5 : ((p1 &&& (2147483647 : Int32)) % (10 : Int32)) = (5 : Int32)
    · rw [own_sel_5 k5 b0 b1 b2 b3 b4 b5 b6 b7 b8 b9]
      show Goes p e below (R0 Z p1 b0 b1 b2 b3 b4 b5 b6 b7 b8 b9 bN h0 n0 s) (T15.setTop (mkF m 12 #[.val (.int p1), .val (.int ((p1 &&& (2147483647 : Int32)) % (10 : Int32))), .unset, .unset, .unset] [(.ref b5)]))
      refine Goes.step (S' := T15.setTop (mkF m 13 #[.val (.int p1), .val (.int ((p1 &&& (2147483647 : Int32)) % (10 : Int32))), .val (.ref b5), .unset, .unset] [])) (fun t k => XS.astoreN X15.here hx rfl (hb hby at_12) rfl rfl (l' := #[.val (.int p1), .val (.int ((p1 &&& (2147483647 : Int32)) % (10 : Int32))), .val (.ref b5), .unset, .unset]) rfl k) ?_
      refine Goes.step (S' := T15.setTop (mkF m 14 #[.val (.int p1), .val (.int ((p1 &&& (2147483647 : Int32)) % (10 : Int32))), .val (.ref b5), .unset, .unset] [(.int ((p1 &&& (2147483647 : Int32)) % (10 : Int32)))])) (fun t k => XS.iloadN X15.here hx rfl (hb hby at_13) rfl k) ?_
      refine Goes.step (S' := T15.setTop (mkF m 15 #[.val (.int p1), .val (.int ((p1 &&& (2147483647 : Int32)) % (10 : Int32))), .val (.ref b5), .unset, .unset] [(.int (4 : Int32)), (.int ((p1 &&& (2147483647 : Int32)) % (10 : Int32)))])) (fun t k => XS.iconst X15.here hx rfl (hb hby at_14) k) ?_
      refine Goes.step (S' := T15.setTop (mkF m 18 #[.val (.int p1), .val (.int ((p1 &&& (2147483647 : Int32)) % (10 : Int32))), .val (.ref b5), .unset, .unset] [])) (fun t k => XS.icmpNo X15.here hx rfl (hb hby at_15) rfl (feq k4).1 k) ?_
      refine Goes.step (S' := T15.setTop (mkF m 19 #[.val (.int p1), .val (.int ((p1 &&& (2147483647 : Int32)) % (10 : Int32))), .val (.ref b5), .unset, .unset] [(.int ((p1 &&& (2147483647 : Int32)) % (10 : Int32)))])) (fun t k => XS.iloadN X15.here hx rfl (hb hby at_18) rfl k) ?_
      refine Goes.step (S' := T15.setTop (mkF m 20 #[.val (.int p1), .val (.int ((p1 &&& (2147483647 : Int32)) % (10 : Int32))), .val (.ref b5), .unset, .unset] [(.int (5 : Int32)), (.int ((p1 &&& (2147483647 : Int32)) % (10 : Int32)))])) (fun t k => XS.iconst X15.here hx rfl (hb hby at_19) k) ?_
      refine Goes.step (S' := T15.setTop (mkF m 23 #[.val (.int p1), .val (.int ((p1 &&& (2147483647 : Int32)) % (10 : Int32))), .val (.ref b5), .unset, .unset] [])) (fun t k => XS.icmpNo X15.here hx rfl (hb hby at_20) rfl (teq k5).2 k) ?_
      refine Goes.step (S' := T15.setTop (mkF m 24 #[.val (.int p1), .val (.int ((p1 &&& (2147483647 : Int32)) % (10 : Int32))), .val (.ref b5), .unset, .unset] [(.int (1 : Int32))])) (fun t k => XS.iconst X15.here hx rfl (hb hby at_23) k) ?_
      refine Goes.step (S' := T15.setTop (mkF m 28 #[.val (.int p1), .val (.int ((p1 &&& (2147483647 : Int32)) % (10 : Int32))), .val (.ref b5), .unset, .unset] [(.int (1 : Int32))])) (fun t k => XS.goto X15.here hx rfl (pc0 := 24) (pc' := 28) rfl (hb hby at_24) (by decide) (by decide) k) ?_
      refine Goes.step (S' := T15.setTop (mkF m 29 #[.val (.int p1), .val (.int ((p1 &&& (2147483647 : Int32)) % (10 : Int32))), .val (.ref b5), .val (.int (1 : Int32)), .unset] [])) (fun t k => XS.istoreN X15.here hx rfl (hb hby at_28) rfl (l' := #[.val (.int p1), .val (.int ((p1 &&& (2147483647 : Int32)) % (10 : Int32))), .val (.ref b5), .val (.int (1 : Int32)), .unset]) rfl k) ?_
      refine Goes.step (S' := T15.setTop (mkF m 30 #[.val (.int p1), .val (.int ((p1 &&& (2147483647 : Int32)) % (10 : Int32))), .val (.ref b5), .val (.int (1 : Int32)), .unset] [(.ref b5)])) (fun t k => XS.aloadN X15.here hx rfl (hb hby at_29) rfl rfl k) ?_
      obtain ⟨cq20, kq20, q20a, q20b, q20c⟩ := isOf hZ e15 E5
      obtain ⟨_, _, ⟨T20, L20, k20, n20⟩, -, X20, ⟨Lc20, hQ20, l20, y20, z20⟩, st20⟩ := X15.virtualBack hx (y := (⟨"com/example/querymorph/querymorph/generator/PostgresType", "isFloat", "()Z"⟩ : MethodName)) (z := (⟨"com/example/querymorph/querymorph/generator/PostgresType", "isFloat", "()Z"⟩ : MethodName)) hown (mvT hZ (hw _ (List.mem_of_getElem? (i := 8) rfl))) (mvT hZ (hw _ (List.mem_of_getElem? (i := 9) rfl))) (notFace_of_selects (args := #[]) (mvT hZ (hw _ (List.mem_of_getElem? (i := 11) rfl)))) (mvT hZ (hw _ (List.mem_of_getElem? (i := 11) rfl))) (mvT hZ (hw _ (List.mem_of_getElem? (i := 10) rfl))) (by decide) (backOf (W := 0) (rm2 l Z a0 hw [] b5 b4 b5 h0 n0 Z0 S4 S5) hZ (hw _ (List.mem_of_getElem? (i := 12) rfl)) (hw _ (List.mem_of_getElem? (i := 6) rfl)) (by decide) (by decide)) q20a q20c (g := (mkF m 30 #[.val (.int p1), .val (.int ((p1 &&& (2147483647 : Int32)) % (10 : Int32))), .val (.ref b5), .val (.int (1 : Int32)), .unset] [(.ref b5)])) rfl (by rw [hml]; rfl) (Steps.refl _) (argsL := []) (rest := []) (lenOf pd_2 rfl) rfl (by show 2 * 0 + _ ≤ _; exact Nat.le_of_eq rfl) (hb hby at_30) (fun _ _ => ⟨rfl, e15, (by decide : 0 + 0 ≤ _), (by decide : 0 + 0 ≤ _)⟩)
      dsimp only [Pt.U, Pt.locs, Pt.cells, Pt.slots] at X20 l20 y20 z20 st20 hQ20
      subst l20 y20 z20
      obtain ⟨rfl, N20q, e20⟩ := hQ20
      have N20 := Fr.app N15 N20q
      refine Goes.step (S' := T20.setTop (mkF m 33 #[.val (.int p1), .val (.int ((p1 &&& (2147483647 : Int32)) % (10 : Int32))), .val (.ref b5), .val (.int (1 : Int32)), .unset] [(.int (own_isf b5 b4 b5))])) (fun t k => st20.trans k) ?_
      rw [own_isf_5 n54]
      show Goes p e below (R0 Z p1 b0 b1 b2 b3 b4 b5 b6 b7 b8 b9 bN h0 n0 s) (T20.setTop (mkF m 33 #[.val (.int p1), .val (.int ((p1 &&& (2147483647 : Int32)) % (10 : Int32))), .val (.ref b5), .val (.int (1 : Int32)), .unset] [(.int (1 : Int32))]))
      refine Goes.step (S' := T20.setTop (mkF m 35 #[.val (.int p1), .val (.int ((p1 &&& (2147483647 : Int32)) % (10 : Int32))), .val (.ref b5), .val (.int (1 : Int32)), .val (.int (1 : Int32))] [])) (fun t k => XS.istore X20.here hx rfl (hb hby at_33) rfl (l' := #[.val (.int p1), .val (.int ((p1 &&& (2147483647 : Int32)) % (10 : Int32))), .val (.ref b5), .val (.int (1 : Int32)), .val (.int (1 : Int32))]) rfl k) ?_
      refine Goes.step (S' := T20.setTop (mkF m 37 #[.val (.int p1), .val (.int ((p1 &&& (2147483647 : Int32)) % (10 : Int32))), .val (.ref b5), .val (.int (1 : Int32)), .val (.int (1 : Int32))] [(.int (1 : Int32))])) (fun t k => XS.iload X20.here hx rfl (hb hby at_35) rfl k) ?_
      refine Goes.step (S' := T20.setTop (mkF m 38 #[.val (.int p1), .val (.int ((p1 &&& (2147483647 : Int32)) % (10 : Int32))), .val (.ref b5), .val (.int (1 : Int32)), .val (.int (1 : Int32))] [(.int (1 : Int32)), (.int (1 : Int32))])) (fun t k => XS.iloadN X20.here hx rfl (hb hby at_37) rfl k) ?_
      refine Goes.step (S' := T20.setTop (mkF m 43 #[.val (.int p1), .val (.int ((p1 &&& (2147483647 : Int32)) % (10 : Int32))), .val (.ref b5), .val (.int (1 : Int32)), .val (.int (1 : Int32))] [])) (fun t k => XS.icmpYes X20.here hx rfl (pc0 := 38) (pc' := 43) rfl (hb hby at_38) rfl (teq rfl).1 (by decide) (by decide) k) ?_
      refine Goes.step (S' := T20.setTop (mkF m 45 #[.val (.int p1), .val (.int ((p1 &&& (2147483647 : Int32)) % (10 : Int32))), .val (.ref b5), .val (.int (1 : Int32)), .val (.int (1 : Int32))] [(.int (1 : Int32))])) (fun t k => XS.iload X20.here hx rfl (hb hby at_43) rfl k) ?_
      refine Goes.step (S' := T20.setTop (mkF m 48 #[.val (.int p1), .val (.int ((p1 &&& (2147483647 : Int32)) % (10 : Int32))), .val (.ref b5), .val (.int (1 : Int32)), .val (.int (1 : Int32))] [])) (fun t k => XS.ifNo X20.here hx rfl (hb hby at_45) rfl ((if0 _ _).trans (feq (by decide : ¬ (1 : Int32) = (0 : Int32))).1) k) ?_
      refine Goes.step (S' := T20.setTop (mkF m 49 #[.val (.int p1), .val (.int ((p1 &&& (2147483647 : Int32)) % (10 : Int32))), .val (.ref b5), .val (.int (1 : Int32)), .val (.int (1 : Int32))] [(.ref b5)])) (fun t k => XS.aloadN X20.here hx rfl (hb hby at_48) rfl rfl k) ?_
      obtain ⟨cq21, kq21, q21a, q21b, q21c⟩ := isOf hZ e20 E5
      obtain ⟨_, _, ⟨T21, L21, k21, n21⟩, -, X21, ⟨Lc21, hQ21, l21, y21, z21⟩, st21⟩ := X20.virtualBack hx (y := (⟨"com/example/querymorph/querymorph/generator/PostgresType", "category", "()Lcom/example/querymorph/querymorph/generator/PostgresType$Category;"⟩ : MethodName)) (z := (⟨"com/example/querymorph/querymorph/generator/PostgresType", "category", "()Lcom/example/querymorph/querymorph/generator/PostgresType$Category;"⟩ : MethodName)) hown (mvT hZ (hw _ (List.mem_of_getElem? (i := 22) rfl))) (mvT hZ (hw _ (List.mem_of_getElem? (i := 23) rfl))) (notFace_of_selects (args := #[]) (mvT hZ (hw _ (List.mem_of_getElem? (i := 25) rfl)))) (mvT hZ (hw _ (List.mem_of_getElem? (i := 25) rfl))) (mvT hZ (hw _ (List.mem_of_getElem? (i := 24) rfl))) (by decide) (backOf (W := 0) (rm3 l Z a0 hw [] b5 bN h0 n0 Z0 C5) hZ (hw _ (List.mem_of_getElem? (i := 26) rfl)) (hw _ (List.mem_of_getElem? (i := 6) rfl)) (by decide) (by decide)) q21a q21c (g := (mkF m 49 #[.val (.int p1), .val (.int ((p1 &&& (2147483647 : Int32)) % (10 : Int32))), .val (.ref b5), .val (.int (1 : Int32)), .val (.int (1 : Int32))] [(.ref b5)])) rfl (by rw [hml]; rfl) (Steps.refl _) (argsL := []) (rest := []) (lenOf pd_3 rfl) rfl (by show 2 * 0 + _ ≤ _; exact Nat.le_of_eq rfl) (hb hby at_49) (fun _ _ => ⟨rfl, e20, (by decide : 0 + 0 ≤ _), (by decide : 0 + 0 ≤ _)⟩)
      dsimp only [Pt.U, Pt.locs, Pt.cells, Pt.slots] at X21 l21 y21 z21 st21 hQ21
      subst l21 y21 z21
      obtain ⟨rfl, N21q, e21⟩ := hQ21
      have N21 := Fr.app N20 N21q
      refine Goes.step (S' := T21.setTop (mkF m 52 #[.val (.int p1), .val (.int ((p1 &&& (2147483647 : Int32)) % (10 : Int32))), .val (.ref b5), .val (.int (1 : Int32)), .val (.int (1 : Int32))] [(.ref bN)])) (fun t k => st21.trans k) ?_
      obtain ⟨T22, X22, e22, st22⟩ := getS X21 hx hZ (host := "") hown (hw _ (List.mem_of_getElem? (i := 31) rfl)) Via.refl e21 SN (g := (mkF m 52 #[.val (.int p1), .val (.int ((p1 &&& (2147483647 : Int32)) % (10 : Int32))), .val (.ref b5), .val (.int (1 : Int32)), .val (.int (1 : Int32))] [(.ref bN)])) rfl (hb hby at_52)
      refine Goes.step (S' := T22.setTop (mkF m 55 #[.val (.int p1), .val (.int ((p1 &&& (2147483647 : Int32)) % (10 : Int32))), .val (.ref b5), .val (.int (1 : Int32)), .val (.int (1 : Int32))] [(.ref bN), (.ref bN)])) (fun t k => st22 t k) ?_
      refine Goes.step (S' := T22.setTop (mkF m 58 #[.val (.int p1), .val (.int ((p1 &&& (2147483647 : Int32)) % (10 : Int32))), .val (.ref b5), .val (.int (1 : Int32)), .val (.int (1 : Int32))] [])) (fun t k => Jvm.RoadKit.acmp X22 hx rfl rfl rfl (pc0 := 55) (pc' := 58) (same := true) rfl (hb hby at_55) rfl (decide_eq_true (congrArg Value.ref rfl)) (by decide) (by decide) k) ?_
      refine Goes.step (S' := T22.setTop (mkF m 59 #[.val (.int p1), .val (.int ((p1 &&& (2147483647 : Int32)) % (10 : Int32))), .val (.ref b5), .val (.int (1 : Int32)), .val (.int (1 : Int32))] [(.ref b5)])) (fun t k => XS.aloadN X22.here hx rfl (hb hby at_58) rfl rfl k) ?_
      obtain ⟨cq23, kq23, q23a, q23b, q23c⟩ := isOf hZ e22 E5
      obtain ⟨_, _, ⟨T23, L23, k23, n23⟩, -, X23, ⟨Lc23, hQ23, l23, y23, z23⟩, st23⟩ := X22.virtualBack hx (y := (⟨"com/example/querymorph/querymorph/generator/PostgresType", "isInteger", "()Z"⟩ : MethodName)) (z := (⟨"com/example/querymorph/querymorph/generator/PostgresType", "isInteger", "()Z"⟩ : MethodName)) hown (mvT hZ (hw _ (List.mem_of_getElem? (i := 32) rfl))) (mvT hZ (hw _ (List.mem_of_getElem? (i := 33) rfl))) (notFace_of_selects (args := #[]) (mvT hZ (hw _ (List.mem_of_getElem? (i := 35) rfl)))) (mvT hZ (hw _ (List.mem_of_getElem? (i := 35) rfl))) (mvT hZ (hw _ (List.mem_of_getElem? (i := 34) rfl))) (by decide) (backOf (W := 0) (rm4 l Z a0 hw [] b5 h0 n0 Z0 M5) hZ (hw _ (List.mem_of_getElem? (i := 36) rfl)) (hw _ (List.mem_of_getElem? (i := 6) rfl)) (by decide) (by decide)) q23a q23c (g := (mkF m 59 #[.val (.int p1), .val (.int ((p1 &&& (2147483647 : Int32)) % (10 : Int32))), .val (.ref b5), .val (.int (1 : Int32)), .val (.int (1 : Int32))] [(.ref b5)])) rfl (by rw [hml]; rfl) (Steps.refl _) (argsL := []) (rest := []) (lenOf pd_4 rfl) rfl (by show 2 * 0 + _ ≤ _; exact Nat.le_of_eq rfl) (hb hby at_59) (fun _ _ => ⟨rfl, e22, (by decide : 0 + 0 ≤ _), (by decide : 0 + 0 ≤ _)⟩)
      dsimp only [Pt.U, Pt.locs, Pt.cells, Pt.slots] at X23 l23 y23 z23 st23 hQ23
      subst l23 y23 z23
      obtain ⟨rfl, N23q, e23⟩ := hQ23
      have N23 := Fr.app N21 N23q
      refine Goes.step (S' := T23.setTop (mkF m 62 #[.val (.int p1), .val (.int ((p1 &&& (2147483647 : Int32)) % (10 : Int32))), .val (.ref b5), .val (.int (1 : Int32)), .val (.int (1 : Int32))] [(.int (0 : Int32))])) (fun t k => st23.trans k) ?_
      refine Goes.step (S' := T23.setTop (mkF m 67 #[.val (.int p1), .val (.int ((p1 &&& (2147483647 : Int32)) % (10 : Int32))), .val (.ref b5), .val (.int (1 : Int32)), .val (.int (1 : Int32))] [])) (fun t k => XS.ifYes X23.here hx rfl (pc0 := 62) (pc' := 67) rfl (hb hby at_62) rfl ((if0 _ _).trans (teq rfl).1) (by decide) (by decide) k) ?_
      refine Goes.step (S' := T23.setTop (mkF m 68 #[.val (.int p1), .val (.int ((p1 &&& (2147483647 : Int32)) % (10 : Int32))), .val (.ref b5), .val (.int (1 : Int32)), .val (.int (1 : Int32))] [(.int (1 : Int32))])) (fun t k => XS.iconst X23.here hx rfl (hb hby at_67) k) ?_
      obtain ⟨fs, hr, hrun, hended, hW, hsame⟩ := X23.leave (v := some (.int (1 : Int32))) (fun h => by rw [Bd.returns] at h; cases h)
      exact ⟨_, _, retN X23 hx (t := .boolean) Bd.returns (by simp) (hb hby at_68) hr, hrun, hended, _, _, rfl, ⟨rfl, N23⟩, ⟨_, rfl⟩, hW, hsame.mono (by decide) (by decide)⟩
    · have Et : Exa Z h0 (own_sel ((p1 &&& (2147483647 : Int32)) % (10 : Int32)) b0 b1 b2 b3 b4 b5 b6 b7 b8 b9) "com/example/querymorph/querymorph/generator/PostgresType" := own_sel_P (P := fun z => Exa Z h0 z "com/example/querymorph/querymorph/generator/PostgresType") k4 k5 E0 E1 E2 E3 E6 E7 E8 E9
      have t4 : ¬ (own_sel ((p1 &&& (2147483647 : Int32)) % (10 : Int32)) b0 b1 b2 b3 b4 b5 b6 b7 b8 b9) = b4 := own_sel_P (P := fun z => ¬ z = b4) k4 k5 n04 n14 n24 n34 n64 n74 n84 n94
      have t5 : ¬ (own_sel ((p1 &&& (2147483647 : Int32)) % (10 : Int32)) b0 b1 b2 b3 b4 b5 b6 b7 b8 b9) = b5 := own_sel_P (P := fun z => ¬ z = b5) k4 k5 n05 n15 n25 n35 n65 n75 n85 n95
      refine Goes.step (S' := T15.setTop (mkF m 13 #[.val (.int p1), .val (.int ((p1 &&& (2147483647 : Int32)) % (10 : Int32))), .val (.ref (own_sel ((p1 &&& (2147483647 : Int32)) % (10 : Int32)) b0 b1 b2 b3 b4 b5 b6 b7 b8 b9)), .unset, .unset] [])) (fun t k => XS.astoreN X15.here hx rfl (hb hby at_12) rfl rfl (l' := #[.val (.int p1), .val (.int ((p1 &&& (2147483647 : Int32)) % (10 : Int32))), .val (.ref (own_sel ((p1 &&& (2147483647 : Int32)) % (10 : Int32)) b0 b1 b2 b3 b4 b5 b6 b7 b8 b9)), .unset, .unset]) rfl k) ?_
      refine Goes.step (S' := T15.setTop (mkF m 14 #[.val (.int p1), .val (.int ((p1 &&& (2147483647 : Int32)) % (10 : Int32))), .val (.ref (own_sel ((p1 &&& (2147483647 : Int32)) % (10 : Int32)) b0 b1 b2 b3 b4 b5 b6 b7 b8 b9)), .unset, .unset] [(.int ((p1 &&& (2147483647 : Int32)) % (10 : Int32)))])) (fun t k => XS.iloadN X15.here hx rfl (hb hby at_13) rfl k) ?_
      refine Goes.step (S' := T15.setTop (mkF m 15 #[.val (.int p1), .val (.int ((p1 &&& (2147483647 : Int32)) % (10 : Int32))), .val (.ref (own_sel ((p1 &&& (2147483647 : Int32)) % (10 : Int32)) b0 b1 b2 b3 b4 b5 b6 b7 b8 b9)), .unset, .unset] [(.int (4 : Int32)), (.int ((p1 &&& (2147483647 : Int32)) % (10 : Int32)))])) (fun t k => XS.iconst X15.here hx rfl (hb hby at_14) k) ?_
      refine Goes.step (S' := T15.setTop (mkF m 18 #[.val (.int p1), .val (.int ((p1 &&& (2147483647 : Int32)) % (10 : Int32))), .val (.ref (own_sel ((p1 &&& (2147483647 : Int32)) % (10 : Int32)) b0 b1 b2 b3 b4 b5 b6 b7 b8 b9)), .unset, .unset] [])) (fun t k => XS.icmpNo X15.here hx rfl (hb hby at_15) rfl (feq k4).1 k) ?_
      refine Goes.step (S' := T15.setTop (mkF m 19 #[.val (.int p1), .val (.int ((p1 &&& (2147483647 : Int32)) % (10 : Int32))), .val (.ref (own_sel ((p1 &&& (2147483647 : Int32)) % (10 : Int32)) b0 b1 b2 b3 b4 b5 b6 b7 b8 b9)), .unset, .unset] [(.int ((p1 &&& (2147483647 : Int32)) % (10 : Int32)))])) (fun t k => XS.iloadN X15.here hx rfl (hb hby at_18) rfl k) ?_
      refine Goes.step (S' := T15.setTop (mkF m 20 #[.val (.int p1), .val (.int ((p1 &&& (2147483647 : Int32)) % (10 : Int32))), .val (.ref (own_sel ((p1 &&& (2147483647 : Int32)) % (10 : Int32)) b0 b1 b2 b3 b4 b5 b6 b7 b8 b9)), .unset, .unset] [(.int (5 : Int32)), (.int ((p1 &&& (2147483647 : Int32)) % (10 : Int32)))])) (fun t k => XS.iconst X15.here hx rfl (hb hby at_19) k) ?_
      refine Goes.step (S' := T15.setTop (mkF m 27 #[.val (.int p1), .val (.int ((p1 &&& (2147483647 : Int32)) % (10 : Int32))), .val (.ref (own_sel ((p1 &&& (2147483647 : Int32)) % (10 : Int32)) b0 b1 b2 b3 b4 b5 b6 b7 b8 b9)), .unset, .unset] [])) (fun t k => XS.icmpYes X15.here hx rfl (pc0 := 20) (pc' := 27) rfl (hb hby at_20) rfl (feq k5).2 (by decide) (by decide) k) ?_
      refine Goes.step (S' := T15.setTop (mkF m 28 #[.val (.int p1), .val (.int ((p1 &&& (2147483647 : Int32)) % (10 : Int32))), .val (.ref (own_sel ((p1 &&& (2147483647 : Int32)) % (10 : Int32)) b0 b1 b2 b3 b4 b5 b6 b7 b8 b9)), .unset, .unset] [(.int (0 : Int32))])) (fun t k => XS.iconst X15.here hx rfl (hb hby at_27) k) ?_
      refine Goes.step (S' := T15.setTop (mkF m 29 #[.val (.int p1), .val (.int ((p1 &&& (2147483647 : Int32)) % (10 : Int32))), .val (.ref (own_sel ((p1 &&& (2147483647 : Int32)) % (10 : Int32)) b0 b1 b2 b3 b4 b5 b6 b7 b8 b9)), .val (.int (0 : Int32)), .unset] [])) (fun t k => XS.istoreN X15.here hx rfl (hb hby at_28) rfl (l' := #[.val (.int p1), .val (.int ((p1 &&& (2147483647 : Int32)) % (10 : Int32))), .val (.ref (own_sel ((p1 &&& (2147483647 : Int32)) % (10 : Int32)) b0 b1 b2 b3 b4 b5 b6 b7 b8 b9)), .val (.int (0 : Int32)), .unset]) rfl k) ?_
      refine Goes.step (S' := T15.setTop (mkF m 30 #[.val (.int p1), .val (.int ((p1 &&& (2147483647 : Int32)) % (10 : Int32))), .val (.ref (own_sel ((p1 &&& (2147483647 : Int32)) % (10 : Int32)) b0 b1 b2 b3 b4 b5 b6 b7 b8 b9)), .val (.int (0 : Int32)), .unset] [(.ref (own_sel ((p1 &&& (2147483647 : Int32)) % (10 : Int32)) b0 b1 b2 b3 b4 b5 b6 b7 b8 b9))])) (fun t k => XS.aloadN X15.here hx rfl (hb hby at_29) rfl rfl k) ?_
      obtain ⟨cq24, kq24, q24a, q24b, q24c⟩ := isOf hZ e15 Et
      obtain ⟨_, _, ⟨T24, L24, k24, n24⟩, -, X24, ⟨Lc24, hQ24, l24, y24, z24⟩, st24⟩ := X15.virtualBack hx (y := (⟨"com/example/querymorph/querymorph/generator/PostgresType", "isFloat", "()Z"⟩ : MethodName)) (z := (⟨"com/example/querymorph/querymorph/generator/PostgresType", "isFloat", "()Z"⟩ : MethodName)) hown (mvT hZ (hw _ (List.mem_of_getElem? (i := 8) rfl))) (mvT hZ (hw _ (List.mem_of_getElem? (i := 9) rfl))) (notFace_of_selects (args := #[]) (mvT hZ (hw _ (List.mem_of_getElem? (i := 11) rfl)))) (mvT hZ (hw _ (List.mem_of_getElem? (i := 11) rfl))) (mvT hZ (hw _ (List.mem_of_getElem? (i := 10) rfl))) (by decide) (backOf (W := 0) (rm2 l Z a0 hw [] (own_sel ((p1 &&& (2147483647 : Int32)) % (10 : Int32)) b0 b1 b2 b3 b4 b5 b6 b7 b8 b9) b4 b5 h0 n0 Z0 S4 S5) hZ (hw _ (List.mem_of_getElem? (i := 12) rfl)) (hw _ (List.mem_of_getElem? (i := 6) rfl)) (by decide) (by decide)) q24a q24c (g := (mkF m 30 #[.val (.int p1), .val (.int ((p1 &&& (2147483647 : Int32)) % (10 : Int32))), .val (.ref (own_sel ((p1 &&& (2147483647 : Int32)) % (10 : Int32)) b0 b1 b2 b3 b4 b5 b6 b7 b8 b9)), .val (.int (0 : Int32)), .unset] [(.ref (own_sel ((p1 &&& (2147483647 : Int32)) % (10 : Int32)) b0 b1 b2 b3 b4 b5 b6 b7 b8 b9))])) rfl (by rw [hml]; rfl) (Steps.refl _) (argsL := []) (rest := []) (lenOf pd_2 rfl) rfl (by show 2 * 0 + _ ≤ _; exact Nat.le_of_eq rfl) (hb hby at_30) (fun _ _ => ⟨rfl, e15, (by decide : 0 + 0 ≤ _), (by decide : 0 + 0 ≤ _)⟩)
      dsimp only [Pt.U, Pt.locs, Pt.cells, Pt.slots] at X24 l24 y24 z24 st24 hQ24
      subst l24 y24 z24
      obtain ⟨rfl, N24q, e24⟩ := hQ24
      have N24 := Fr.app N15 N24q
      refine Goes.step (S' := T24.setTop (mkF m 33 #[.val (.int p1), .val (.int ((p1 &&& (2147483647 : Int32)) % (10 : Int32))), .val (.ref (own_sel ((p1 &&& (2147483647 : Int32)) % (10 : Int32)) b0 b1 b2 b3 b4 b5 b6 b7 b8 b9)), .val (.int (0 : Int32)), .unset] [(.int (own_isf (own_sel ((p1 &&& (2147483647 : Int32)) % (10 : Int32)) b0 b1 b2 b3 b4 b5 b6 b7 b8 b9) b4 b5))])) (fun t k => st24.trans k) ?_
      rw [own_isf_0 t4 t5]
      show Goes p e below (R0 Z p1 b0 b1 b2 b3 b4 b5 b6 b7 b8 b9 bN h0 n0 s) (T24.setTop (mkF m 33 #[.val (.int p1), .val (.int ((p1 &&& (2147483647 : Int32)) % (10 : Int32))), .val (.ref (own_sel ((p1 &&& (2147483647 : Int32)) % (10 : Int32)) b0 b1 b2 b3 b4 b5 b6 b7 b8 b9)), .val (.int (0 : Int32)), .unset] [(.int (0 : Int32))]))
      refine Goes.step (S' := T24.setTop (mkF m 35 #[.val (.int p1), .val (.int ((p1 &&& (2147483647 : Int32)) % (10 : Int32))), .val (.ref (own_sel ((p1 &&& (2147483647 : Int32)) % (10 : Int32)) b0 b1 b2 b3 b4 b5 b6 b7 b8 b9)), .val (.int (0 : Int32)), .val (.int (0 : Int32))] [])) (fun t k => XS.istore X24.here hx rfl (hb hby at_33) rfl (l' := #[.val (.int p1), .val (.int ((p1 &&& (2147483647 : Int32)) % (10 : Int32))), .val (.ref (own_sel ((p1 &&& (2147483647 : Int32)) % (10 : Int32)) b0 b1 b2 b3 b4 b5 b6 b7 b8 b9)), .val (.int (0 : Int32)), .val (.int (0 : Int32))]) rfl k) ?_
      refine Goes.step (S' := T24.setTop (mkF m 37 #[.val (.int p1), .val (.int ((p1 &&& (2147483647 : Int32)) % (10 : Int32))), .val (.ref (own_sel ((p1 &&& (2147483647 : Int32)) % (10 : Int32)) b0 b1 b2 b3 b4 b5 b6 b7 b8 b9)), .val (.int (0 : Int32)), .val (.int (0 : Int32))] [(.int (0 : Int32))])) (fun t k => XS.iload X24.here hx rfl (hb hby at_35) rfl k) ?_
      refine Goes.step (S' := T24.setTop (mkF m 38 #[.val (.int p1), .val (.int ((p1 &&& (2147483647 : Int32)) % (10 : Int32))), .val (.ref (own_sel ((p1 &&& (2147483647 : Int32)) % (10 : Int32)) b0 b1 b2 b3 b4 b5 b6 b7 b8 b9)), .val (.int (0 : Int32)), .val (.int (0 : Int32))] [(.int (0 : Int32)), (.int (0 : Int32))])) (fun t k => XS.iloadN X24.here hx rfl (hb hby at_37) rfl k) ?_
      refine Goes.step (S' := T24.setTop (mkF m 43 #[.val (.int p1), .val (.int ((p1 &&& (2147483647 : Int32)) % (10 : Int32))), .val (.ref (own_sel ((p1 &&& (2147483647 : Int32)) % (10 : Int32)) b0 b1 b2 b3 b4 b5 b6 b7 b8 b9)), .val (.int (0 : Int32)), .val (.int (0 : Int32))] [])) (fun t k => XS.icmpYes X24.here hx rfl (pc0 := 38) (pc' := 43) rfl (hb hby at_38) rfl (teq rfl).1 (by decide) (by decide) k) ?_
      refine Goes.step (S' := T24.setTop (mkF m 45 #[.val (.int p1), .val (.int ((p1 &&& (2147483647 : Int32)) % (10 : Int32))), .val (.ref (own_sel ((p1 &&& (2147483647 : Int32)) % (10 : Int32)) b0 b1 b2 b3 b4 b5 b6 b7 b8 b9)), .val (.int (0 : Int32)), .val (.int (0 : Int32))] [(.int (0 : Int32))])) (fun t k => XS.iload X24.here hx rfl (hb hby at_43) rfl k) ?_
      refine Goes.step (S' := T24.setTop (mkF m 67 #[.val (.int p1), .val (.int ((p1 &&& (2147483647 : Int32)) % (10 : Int32))), .val (.ref (own_sel ((p1 &&& (2147483647 : Int32)) % (10 : Int32)) b0 b1 b2 b3 b4 b5 b6 b7 b8 b9)), .val (.int (0 : Int32)), .val (.int (0 : Int32))] [])) (fun t k => XS.ifYes X24.here hx rfl (pc0 := 45) (pc' := 67) rfl (hb hby at_45) rfl ((if0 _ _).trans (teq rfl).1) (by decide) (by decide) k) ?_
      refine Goes.step (S' := T24.setTop (mkF m 68 #[.val (.int p1), .val (.int ((p1 &&& (2147483647 : Int32)) % (10 : Int32))), .val (.ref (own_sel ((p1 &&& (2147483647 : Int32)) % (10 : Int32)) b0 b1 b2 b3 b4 b5 b6 b7 b8 b9)), .val (.int (0 : Int32)), .val (.int (0 : Int32))] [(.int (1 : Int32))])) (fun t k => XS.iconst X24.here hx rfl (hb hby at_67) k) ?_
      obtain ⟨fs, hr, hrun, hended, hW, hsame⟩ := X24.leave (v := some (.int (1 : Int32))) (fun h => by rw [Bd.returns] at h; cases h)
      exact ⟨_, _, retN X24 hx (t := .boolean) Bd.returns (by simp) (hb hby at_68) hr, hrun, hended, _, _, rfl, ⟨rfl, N24⟩, ⟨_, rfl⟩, hW, hsame.mono (by decide) (by decide)⟩
set_option maxRecDepth 65536 in
set_option maxHeartbeats 40000000 in
theorem comes_1 {Post : Tables → Env → Array Value → State → Outcome → State → Prop} (hpost : ∀ tb e args s v u, (limb_1_1.after args s (.returned v) u = true ∧ limb_1_2.after args s (.returned v) u = true ∧ True) → FrameEnd s (.returned v) u (Jvm.fieldLocs frame_1_writes args s ++ Jvm.arrayLocs frame_1_arrays args s ++ Jvm.staticLocs frame_1_statics s) 0 0 → Post tb e args s (.returned v) u) :
    ArmFor flags0 classFile x code maxLocals ret World_1 tables_1 room_1 Calls_1 rest_1 Pre_1 Post := by
  intro l hfl _ _ p e ha hc hk s m args below hf hA hF happ hP
  obtain ⟨hcalls, hrest, hpre⟩ := hP
  obtain ⟨-, -, -, hnamed, -, -, -, hat⟩ := (Spec.applies_iff hf).mp happ
  obtain ⟨hg, hn⟩ := and_e (Cond.before_iff.mp (show (Jvm.Cond.and given_1 narrow_1).before args s = true from hpre))
  obtain ⟨h1, ha0⟩ := and_e hg
  obtain ⟨w0, rfl⟩ : ∃ w0 : Value, args = #[w0] := by
    have hs : args.size = 1 := by simpa [Cond.value, given_1] using h1
    obtain ⟨L⟩ := args
    match L, hs with
    | [w0], _ => exact ⟨w0, rfl⟩
  have hw := fun d (hd : d ∈ tables_1) => atoms_spec (ws := Jvm.Cond.code x code maxLocals ret :: tables_1) hat d (List.mem_cons_of_mem _ hd)
  have hfit : Fit s := fun {y c} hc i hi => by
    obtain ⟨ha, rfl⟩ := Array.getElem?_eq_some_iff.mp hc
    have q := List.all_eq_true.mp ((Array.all_eq_true_iff_forall_mem.mp hF) _ (Array.getElem_mem ha)) i (List.mem_range.mpr hi)
    simpa [Array.getElem?_eq_getElem hi] using q
  obtain ⟨i0, ei0⟩ := is_v ha0
  obtain rfl : w0 = (.int i0) := Option.some.inj ei0
  obtain ⟨m0, hn⟩ := and_e hn
  obtain ⟨m1, hn⟩ := and_e hn
  obtain ⟨m2, hn⟩ := and_e hn
  obtain ⟨m3, hn⟩ := and_e hn
  obtain ⟨m4, hn⟩ := and_e hn
  obtain ⟨m5, hn⟩ := and_e hn
  obtain ⟨m6, hn⟩ := and_e hn
  obtain ⟨m7, hn⟩ := and_e hn
  obtain ⟨m8, hn⟩ := and_e hn
  obtain ⟨m9, hn⟩ := and_e hn
  obtain ⟨m10, hn⟩ := and_e hn
  obtain ⟨m11, hn⟩ := and_e hn
  obtain ⟨m12, hn⟩ := and_e hn
  obtain ⟨m13, hn⟩ := and_e hn
  obtain ⟨m14, hn⟩ := and_e hn
  obtain ⟨m15, hn⟩ := and_e hn
  obtain ⟨m16, hn⟩ := and_e hn
  obtain ⟨m17, hn⟩ := and_e hn
  obtain ⟨m18, hn⟩ := and_e hn
  obtain ⟨m19, hn⟩ := and_e hn
  obtain ⟨m20, hn⟩ := and_e hn
  obtain ⟨m21, hn⟩ := and_e hn
  obtain ⟨m22, hn⟩ := and_e hn
  obtain ⟨m23, hn⟩ := and_e hn
  obtain ⟨m24, hn⟩ := and_e hn
  obtain ⟨m25, hn⟩ := and_e hn
  obtain ⟨m26, hn⟩ := and_e hn
  obtain ⟨m27, hn⟩ := and_e hn
  obtain ⟨m28, hn⟩ := and_e hn
  obtain ⟨m29, hn⟩ := and_e hn
  obtain ⟨m30, hn⟩ := and_e hn
  obtain ⟨m31, hn⟩ := and_e hn
  obtain ⟨m32, hn⟩ := and_e hn
  obtain ⟨m33, hn⟩ := and_e hn
  obtain ⟨m34, hn⟩ := and_e hn
  obtain ⟨m35, hn⟩ := and_e hn
  obtain ⟨m36, hn⟩ := and_e hn
  obtain ⟨m37, hn⟩ := and_e hn
  obtain ⟨m38, hn⟩ := and_e hn
  obtain ⟨m39, hn⟩ := and_e hn
  obtain ⟨m40, hn⟩ := and_e hn
  obtain ⟨m41, hn⟩ := and_e hn
  obtain ⟨m42, hn⟩ := and_e hn
  have m43 := hn
  obtain ⟨b0, ev0⟩ := exa_v m0
  have E0 := Exa.start ev0 m0
  have S0 : Sta s s.heap "com/example/querymorph/querymorph/generator/PostgresType" "SMALLINT" "Lcom/example/querymorph/querymorph/generator/PostgresType;" (.ref b0) := Sta.start ev0 (Or.inr ⟨(hw _ (List.mem_of_getElem? (i := 6) rfl)), (hw _ (List.mem_of_getElem? (i := 7) rfl))⟩)
  have O0 := own_fld ev0 (own_eqI m2)
  obtain ⟨b1, ev1⟩ := exa_v m8
  have E1 := Exa.start ev1 m8
  have S1 : Sta s s.heap "com/example/querymorph/querymorph/generator/PostgresType" "INTEGER" "Lcom/example/querymorph/querymorph/generator/PostgresType;" (.ref b1) := Sta.start ev1 (Or.inr ⟨(hw _ (List.mem_of_getElem? (i := 6) rfl)), (hw _ (List.mem_of_getElem? (i := 20) rfl))⟩)
  have O1 := own_fld ev1 (own_eqI m9)
  obtain ⟨b2, ev2⟩ := exa_v m15
  have E2 := Exa.start ev2 m15
  have S2 : Sta s s.heap "com/example/querymorph/querymorph/generator/PostgresType" "BIGINT" "Lcom/example/querymorph/querymorph/generator/PostgresType;" (.ref b2) := Sta.start ev2 (Or.inr ⟨(hw _ (List.mem_of_getElem? (i := 6) rfl)), (hw _ (List.mem_of_getElem? (i := 42) rfl))⟩)
  have O2 := own_fld ev2 (own_eqI m16)
  obtain ⟨b3, ev3⟩ := exa_v m6
  have E3 := Exa.start ev3 m6
  have S3 : Sta s s.heap "com/example/querymorph/querymorph/generator/PostgresType" "NUMERIC" "Lcom/example/querymorph/querymorph/generator/PostgresType;" (.ref b3) := Sta.start ev3 (Or.inr ⟨(hw _ (List.mem_of_getElem? (i := 6) rfl)), (hw _ (List.mem_of_getElem? (i := 18) rfl))⟩)
  have O3 := own_fld ev3 (own_eqI m7)
  obtain ⟨b4, ev4⟩ := exa_v m1
  have E4 := Exa.start ev4 m1
  have S4 : Sta s s.heap "com/example/querymorph/querymorph/generator/PostgresType" "REAL" "Lcom/example/querymorph/querymorph/generator/PostgresType;" (.ref b4) := Sta.start ev4 (Or.inr ⟨(hw _ (List.mem_of_getElem? (i := 6) rfl)), (hw _ (List.mem_of_getElem? (i := 14) rfl))⟩)
  have O4 := own_fld ev4 (own_eqI m3)
  obtain ⟨b5, ev5⟩ := exa_v m4
  have E5 := Exa.start ev5 m4
  have S5 : Sta s s.heap "com/example/querymorph/querymorph/generator/PostgresType" "DOUBLE" "Lcom/example/querymorph/querymorph/generator/PostgresType;" (.ref b5) := Sta.start ev5 (Or.inr ⟨(hw _ (List.mem_of_getElem? (i := 6) rfl)), (hw _ (List.mem_of_getElem? (i := 16) rfl))⟩)
  have O5 := own_fld ev5 (own_eqI m5)
  obtain ⟨b6, ev6⟩ := exa_v m23
  have E6 := Exa.start ev6 m23
  have S6 : Sta s s.heap "com/example/querymorph/querymorph/generator/PostgresType" "TEXT" "Lcom/example/querymorph/querymorph/generator/PostgresType;" (.ref b6) := Sta.start ev6 (Or.inr ⟨(hw _ (List.mem_of_getElem? (i := 6) rfl)), (hw _ (List.mem_of_getElem? (i := 49) rfl))⟩)
  have O6 := own_fld ev6 (own_eqI m24)
  obtain ⟨b7, ev7⟩ := exa_v m13
  have E7 := Exa.start ev7 m13
  have S7 : Sta s s.heap "com/example/querymorph/querymorph/generator/PostgresType" "BOOLEAN" "Lcom/example/querymorph/querymorph/generator/PostgresType;" (.ref b7) := Sta.start ev7 (Or.inr ⟨(hw _ (List.mem_of_getElem? (i := 6) rfl)), (hw _ (List.mem_of_getElem? (i := 40) rfl))⟩)
  have O7 := own_fld ev7 (own_eqI m14)
  obtain ⟨b8, ev8⟩ := exa_v m17
  have E8 := Exa.start ev8 m17
  have S8 : Sta s s.heap "com/example/querymorph/querymorph/generator/PostgresType" "DATE" "Lcom/example/querymorph/querymorph/generator/PostgresType;" (.ref b8) := Sta.start ev8 (Or.inr ⟨(hw _ (List.mem_of_getElem? (i := 6) rfl)), (hw _ (List.mem_of_getElem? (i := 44) rfl))⟩)
  have O8 := own_fld ev8 (own_eqI m18)
  obtain ⟨b9, ev9⟩ := exa_v m19
  have E9 := Exa.start ev9 m19
  have S9 : Sta s s.heap "com/example/querymorph/querymorph/generator/PostgresType" "TIMESTAMP" "Lcom/example/querymorph/querymorph/generator/PostgresType;" (.ref b9) := Sta.start ev9 (Or.inr ⟨(hw _ (List.mem_of_getElem? (i := 6) rfl)), (hw _ (List.mem_of_getElem? (i := 46) rfl))⟩)
  have O9 := own_fld ev9 (own_eqI m20)
  obtain ⟨bN, evN⟩ := exa_v m10
  have SN : Sta s s.heap "com/example/querymorph/querymorph/generator/PostgresType$Category" "NUMBER" "Lcom/example/querymorph/querymorph/generator/PostgresType$Category;" (.ref bN) := Sta.start evN (Or.inr ⟨(hw _ (List.mem_of_getElem? (i := 29) rfl)), (hw _ (List.mem_of_getElem? (i := 30) rfl))⟩)
  have C4 := own_fld ev4 (own_eqR evN m11)
  have M4 := own_fld ev4 (null_v m12)
  have C5 := own_fld ev5 (own_eqR evN m21)
  have M5 := own_fld ev5 (null_v m22)
  obtain ⟨n, o, h1, h2, h3, _, L, rfl, ⟨rfl, N⟩, hq⟩ := rm0 l s _ hw tables_1 i0 b0 b1 b2 b3 b4 b5 b6 b7 b8 b9 bN s.heap s.heap.size (Nat.le_refl _) S0 S1 S2 S3 S4 S5 S6 S7 S8 S9 SN E0 E1 E2 E3 E4 E5 E6 E7 E8 E9 (O0.ne O4 (fun q => absurd (Value.int.inj q) (by decide))) (O0.ne O5 (fun q => absurd (Value.int.inj q) (by decide))) (O1.ne O4 (fun q => absurd (Value.int.inj q) (by decide))) (O1.ne O5 (fun q => absurd (Value.int.inj q) (by decide))) (O2.ne O4 (fun q => absurd (Value.int.inj q) (by decide))) (O2.ne O5 (fun q => absurd (Value.int.inj q) (by decide))) (O3.ne O4 (fun q => absurd (Value.int.inj q) (by decide))) (O3.ne O5 (fun q => absurd (Value.int.inj q) (by decide))) (O6.ne O4 (fun q => absurd (Value.int.inj q) (by decide))) (O6.ne O5 (fun q => absurd (Value.int.inj q) (by decide))) (O7.ne O4 (fun q => absurd (Value.int.inj q) (by decide))) (O7.ne O5 (fun q => absurd (Value.int.inj q) (by decide))) (O8.ne O4 (fun q => absurd (Value.int.inj q) (by decide))) (O8.ne O5 (fun q => absurd (Value.int.inj q) (by decide))) (O9.ne O4 (fun q => absurd (Value.int.inj q) (by decide))) (O9.ne O5 (fun q => absurd (Value.int.inj q) (by decide))) (O5.ne O4 (fun q => absurd (Value.int.inj q) (by decide))) C4 M4 C5 M5 p e ha hc hk s m _ below hf ((Spec.applies_iff_loose hf).mp happ).1 ⟨rfl, State.Warmed39.refl s, rfl⟩ trivial
  refine ⟨n, _, h1, h2, h3, hpost _ _ _ _ _ _ ⟨Cond.after_iff.mpr rfl, Cond.after_iff.mpr (eq_i res_at (Term.int_eval (1)) rfl), trivial⟩ ⟨hq.1, hq.2.1, (hq.2.2.sift fun y hy => Or.inr (N y hy)).mono (by decide) (by decide)⟩⟩
theorem main_1_1 : Claimed_1_1 := comes_1 fun _ _ _ _ _ _ h hF => ⟨h.1, hF⟩
theorem main_1_2 : Claimed_1_2 := comes_1 fun _ _ _ _ _ _ h hF => ⟨h.2.1, hF⟩
end Jvm.Pilot.@@N@@
namespace Jvm.Pilot.@@N@@
open Jvm Jvm.ClassFile Sem Op Lib Jvm.Free Jvm.Stand Jvm.Pilot.@@N@@.Jvm.D
/-! MADE BY PROGRAM (witnessworld.py) out of the Statement's table words and the real class files: 15 classes; the members and pool entries that the words name. The judged class is class 1, her method 2. -/
namespace start1
open Jvm.ClassFile
def u (s : String) : CpInfo := .utf8 (stringToUtf16 s)
/-- a pool by its gaps: so many unusable entries, then the entry; so many at the end -/
def gap : Nat → List CpInfo → List CpInfo
  | 0, r => r
  | n + 1, r => .unusable :: gap n r
def poolList (es : List (Nat × CpInfo)) (last : Nat) : List CpInfo := es.foldr (fun e r => gap e.1 (e.2 :: r)) (gap last [])
def pool (es : List (Nat × CpInfo)) (last : Nat) : Array CpInfo := ⟨poolList es last⟩
def fileOf (pool : Array CpInfo) (this : Nat) (attrs : Array Attribute := #[]) (ms : Array MethodInfo := #[]) (fl : Nat := 33) (sup : Nat := 0) (ifs : Array Nat := #[]) (fds : Array FieldInfo := #[]) : ClassFile where
  minorVersion := 0
  majorVersion := 65
  constantPool := pool
  accessFlags := fl
  thisClass := this
  superClass := sup
  interfaces := ifs
  fields := fds
  methods := ms
  attributes := attrs
def plain (name : String) (sup : Option ClassId) : Class where
  name := name
  kind := .ordinary
  loader := none
  accessFlags := 33
  super := sup
  interfaces := #[]
  cf := none
  fields := #[]
  methods := #[]
  instanceTypes := #[]
  staticTypes := #[]
  resolved := #[]
  callSites := []
  init := .initialized
  statics := none
  mirror := none

def pool0 : Array CpInfo := pool [(5, u "<init>"), (0, u "()V"), (1, .class_ 10), (1, u "java/lang/Object")] 113

def k0m0 : Method := { name := "<init>", desc := "()V", sig := { parameters := [], returnType := none }, accessFlags := 1, code := none }
/-- java/lang/Object -/
def k0 : Class := { plain "java/lang/Object" none with
  accessFlags := 33
  interfaces := #[]
  cf := some (fileOf pool0 8 #[] #[{ accessFlags := 1, nameIndex := 5, descriptorIndex := 6, attributes := #[] }] 33 0 #[] #[])
  fields := #[]
  methods := #[k0m0]
  instanceTypes := #[]
  staticTypes := #[]
  resolved := Array.replicate 124 none
  statics := none }

def pool1 : Array CpInfo := pool [(2, .class_ 4), (1, u "java/lang/Object"), (0, u "<init>"), (0, u "()V"), (0, .fieldref 8 9), (0, .class_ 10), (0, .nameAndType 11 12), (0, u "com/example/querymorph/querymorph/generator/PostgresType"), (0, u "SMALLINT"), (0, u "Lcom/example/querymorph/querymorph/generator/PostgresType;"), (0, .fieldref 8 14), (0, .nameAndType 15 12), (0, u "INTEGER"), (0, .fieldref 8 17), (0, .nameAndType 18 12), (0, u "BIGINT"), (0, .fieldref 8 20), (0, .nameAndType 21 12), (0, u "NUMERIC"), (0, .fieldref 8 23), (0, .nameAndType 24 12), (0, u "REAL"), (0, .fieldref 8 26), (0, .nameAndType 27 12), (0, u "DOUBLE"), (0, .fieldref 8 29), (0, .nameAndType 30 12), (0, u "TEXT"), (0, .fieldref 8 32), (0, .nameAndType 33 12), (0, u "BOOLEAN"), (0, .fieldref 8 35), (0, .nameAndType 36 12), (0, u "DATE"), (0, .fieldref 8 38), (0, .nameAndType 39 12), (0, u "TIMESTAMP"), (0, .integer 2147483647), (0, .methodref 42 43), (0, .class_ 44), (0, .nameAndType 45 46), (0, u "com/example/querymorph/querymorph/generator/PostgresTypeIsFloatPinLaw"), (0, u "pick"), (0, u "(I)Lcom/example/querymorph/querymorph/generator/PostgresType;"), (0, .methodref 8 48), (0, .nameAndType 49 50), (0, u "isFloat"), (0, u "()Z"), (0, .methodref 8 52), (0, .nameAndType 53 54), (0, u "category"), (0, u "()Lcom/example/querymorph/querymorph/generator/PostgresType$Category;"), (0, .fieldref 56 57), (0, .class_ 58), (0, .nameAndType 59 60), (0, u "com/example/querymorph/querymorph/generator/PostgresType$Category"), (0, u "NUMBER"), (0, u "Lcom/example/querymorph/querymorph/generator/PostgresType$Category;"), (0, .methodref 8 62), (0, .nameAndType 63 50), (0, u "isInteger"), (3, u "law"), (0, u "(I)Z")] 4

def k1m0 : Method := { name := "<init>", desc := "()V", sig := { parameters := [], returnType := none }, accessFlags := 1, code := none }
def k1c1 : Code := { maxStack := 2, maxLocals := 1, code := method_2_code, exceptionTable := #[], attributes := #[] }
def k1m1 : Method := { name := "pick", desc := "(I)Lcom/example/querymorph/querymorph/generator/PostgresType;", sig := { parameters := [.int], returnType := some (.object "com/example/querymorph/querymorph/generator/PostgresType") }, accessFlags := 10, code := some k1c1 }
def k1c2 : Code := { maxStack := 2, maxLocals := 5, code := code, exceptionTable := #[], attributes := #[] }
def k1m2 : Method := { name := "law", desc := "(I)Z", sig := { parameters := [.int], returnType := some .boolean }, accessFlags := 9, code := some k1c2 }
/-- com/example/querymorph/querymorph/generator/PostgresTypeIsFloatPinLaw -/
def k1 : Class := { plain "com/example/querymorph/querymorph/generator/PostgresTypeIsFloatPinLaw" (some 0) with
  accessFlags := 49
  interfaces := #[]
  cf := some (fileOf pool1 42 #[] #[{ accessFlags := 1, nameIndex := 5, descriptorIndex := 6, attributes := #[] }, { accessFlags := 10, nameIndex := 45, descriptorIndex := 46, attributes := #[] }, { accessFlags := 9, nameIndex := 67, descriptorIndex := 68, attributes := #[] }] 49 2 #[] #[])
  fields := #[]
  methods := #[k1m0, k1m1, k1m2]
  instanceTypes := #[]
  staticTypes := #[]
  resolved := Array.replicate 73 none
  statics := none }

def pool2 : Array CpInfo := pool [(1, .class_ 2), (0, u "java/lang/constant/Constable"), (0, .class_ 4), (0, u "java/lang/Object")] 6

/-- java/lang/constant/Constable -/
def k2 : Class := { plain "java/lang/constant/Constable" (some 0) with
  accessFlags := 1537
  interfaces := #[]
  cf := some (fileOf pool2 1 #[] #[] 1537 3 #[] #[])
  fields := #[]
  methods := #[]
  instanceTypes := #[]
  staticTypes := #[]
  resolved := Array.replicate 11 none
  statics := none }

def pool3 : Array CpInfo := pool [(1, .class_ 2), (0, u "java/lang/Comparable"), (0, .class_ 4), (0, u "java/lang/Object")] 7

/-- java/lang/Comparable -/
def k3 : Class := { plain "java/lang/Comparable" (some 0) with
  accessFlags := 1537
  interfaces := #[]
  cf := some (fileOf pool3 1 #[] #[] 1537 3 #[] #[])
  fields := #[]
  methods := #[]
  instanceTypes := #[]
  staticTypes := #[]
  resolved := Array.replicate 12 none
  statics := none }

def pool4 : Array CpInfo := pool [(1, .class_ 2), (0, u "java/io/Serializable"), (0, .class_ 4), (0, u "java/lang/Object")] 2

/-- java/io/Serializable -/
def k4 : Class := { plain "java/io/Serializable" (some 0) with
  accessFlags := 1537
  interfaces := #[]
  cf := some (fileOf pool4 1 #[] #[] 1537 3 #[] #[])
  fields := #[]
  methods := #[]
  instanceTypes := #[]
  staticTypes := #[]
  resolved := Array.replicate 7 none
  statics := none }

def pool5 : Array CpInfo := pool [(2, .class_ 4), (1, u "java/lang/Enum"), (0, u "name"), (0, u "Ljava/lang/String;"), (2, u "ordinal"), (0, u "I"), (1, .class_ 14), (1, u "java/lang/Object"), (4, u "hash"), (86, .class_ 108), (1, u "java/lang/Enum$EnumDesc"), (2, .class_ 112), (0, u "java/lang/constant/Constable"), (0, .class_ 114), (0, u "java/lang/Comparable"), (0, .class_ 116), (0, u "java/io/Serializable")] 87

/-- java/lang/Enum -/
def k5 : Class := { plain "java/lang/Enum" (some 0) with
  accessFlags := 1057
  interfaces := #[2, 3, 4]
  cf := some (fileOf pool5 2 #[.nestMembers #[106]] #[] 1057 12 #[111, 113, 115] #[{ accessFlags := 18, nameIndex := 5, descriptorIndex := 6, attributes := #[] }, { accessFlags := 18, nameIndex := 9, descriptorIndex := 10, attributes := #[] }, { accessFlags := 2, nameIndex := 19, descriptorIndex := 10, attributes := #[] }])
  fields := #[{ name := "name", type := (.object "java/lang/String"), accessFlags := 18, slot := 0, constantValue := 0 }, { name := "ordinal", type := .int, accessFlags := 18, slot := 1, constantValue := 0 }, { name := "hash", type := .int, accessFlags := 2, slot := 2, constantValue := 0 }]
  methods := #[]
  instanceTypes := #[(.object "java/lang/String"), .int, .int]
  staticTypes := #[]
  resolved := Array.replicate 204 none
  statics := none }

def pool6 : Array CpInfo := pool [(1, .class_ 2), (0, u "com/example/querymorph/querymorph/generator/PostgresType"), (2, u "SMALLINT"), (0, u "Lcom/example/querymorph/querymorph/generator/PostgresType;"), (2, u "INTEGER"), (2, u "BIGINT"), (2, u "NUMERIC"), (0, .fieldref 1 17), (0, .nameAndType 18 6), (0, u "REAL"), (0, .fieldref 1 20), (0, .nameAndType 21 6), (0, u "DOUBLE"), (2, u "TEXT"), (2, u "BOOLEAN"), (2, u "DATE"), (2, u "TIMESTAMP"), (2, u "$VALUES"), (0, u "[Lcom/example/querymorph/querymorph/generator/PostgresType;"), (6, .class_ 46), (1, u "java/lang/Enum"), (8, u "sql"), (0, u "Ljava/lang/String;"), (0, .fieldref 1 58), (0, .nameAndType 59 60), (0, u "category"), (0, u "Lcom/example/querymorph/querymorph/generator/PostgresType$Category;"), (0, .fieldref 1 62), (0, .nameAndType 63 64), (0, u "min"), (0, u "Ljava/math/BigDecimal;"), (2, u "max"), (7, u "isFloat"), (0, u "()Z"), (8, .class_ 87), (1, u "com/example/querymorph/querymorph/generator/PostgresType$Category"), (70, u "()Lcom/example/querymorph/querymorph/generator/PostgresType$Category;"), (0, u "isInteger")] 13

def k6c0 : Code := { maxStack := 1, maxLocals := 1, code := prog_152_method_6_code, exceptionTable := #[], attributes := #[] }
def k6m0 : Method := { name := "category", desc := "()Lcom/example/querymorph/querymorph/generator/PostgresType$Category;", sig := { parameters := [], returnType := some (.object "com/example/querymorph/querymorph/generator/PostgresType$Category") }, accessFlags := 0, code := some k6c0 }
def k6c1 : Code := { maxStack := 1, maxLocals := 1, code := prog_152_method_7_code, exceptionTable := #[], attributes := #[] }
def k6m1 : Method := { name := "isInteger", desc := "()Z", sig := { parameters := [], returnType := some .boolean }, accessFlags := 0, code := some k6c1 }
def k6c2 : Code := { maxStack := 2, maxLocals := 1, code := prog_152_method_8_code, exceptionTable := #[], attributes := #[] }
def k6m2 : Method := { name := "isFloat", desc := "()Z", sig := { parameters := [], returnType := some .boolean }, accessFlags := 0, code := some k6c2 }
/-- com/example/querymorph/querymorph/generator/PostgresType -/
def k6 : Class := { plain "com/example/querymorph/querymorph/generator/PostgresType" (some 5) with
  accessFlags := 16432
  interfaces := #[]
  cf := some (fileOf pool6 1 #[.nestMembers #[85]] #[{ accessFlags := 0, nameIndex := 59, descriptorIndex := 158, attributes := #[] }, { accessFlags := 0, nameIndex := 159, descriptorIndex := 76, attributes := #[] }, { accessFlags := 0, nameIndex := 75, descriptorIndex := 76, attributes := #[] }] 16432 44 #[] #[{ accessFlags := 16409, nameIndex := 5, descriptorIndex := 6, attributes := #[] }, { accessFlags := 16409, nameIndex := 9, descriptorIndex := 6, attributes := #[] }, { accessFlags := 16409, nameIndex := 12, descriptorIndex := 6, attributes := #[] }, { accessFlags := 16409, nameIndex := 15, descriptorIndex := 6, attributes := #[] }, { accessFlags := 16409, nameIndex := 18, descriptorIndex := 6, attributes := #[] }, { accessFlags := 16409, nameIndex := 21, descriptorIndex := 6, attributes := #[] }, { accessFlags := 16409, nameIndex := 24, descriptorIndex := 6, attributes := #[] }, { accessFlags := 16409, nameIndex := 27, descriptorIndex := 6, attributes := #[] }, { accessFlags := 16409, nameIndex := 30, descriptorIndex := 6, attributes := #[] }, { accessFlags := 16409, nameIndex := 33, descriptorIndex := 6, attributes := #[] }, { accessFlags := 18, nameIndex := 55, descriptorIndex := 56, attributes := #[] }, { accessFlags := 18, nameIndex := 59, descriptorIndex := 60, attributes := #[] }, { accessFlags := 18, nameIndex := 63, descriptorIndex := 64, attributes := #[] }, { accessFlags := 18, nameIndex := 67, descriptorIndex := 64, attributes := #[] }, { accessFlags := 4122, nameIndex := 36, descriptorIndex := 37, attributes := #[] }])
  fields := #[{ name := "SMALLINT", type := (.object "com/example/querymorph/querymorph/generator/PostgresType"), accessFlags := 16409, slot := 0, constantValue := 0 }, { name := "INTEGER", type := (.object "com/example/querymorph/querymorph/generator/PostgresType"), accessFlags := 16409, slot := 1, constantValue := 0 }, { name := "BIGINT", type := (.object "com/example/querymorph/querymorph/generator/PostgresType"), accessFlags := 16409, slot := 2, constantValue := 0 }, { name := "NUMERIC", type := (.object "com/example/querymorph/querymorph/generator/PostgresType"), accessFlags := 16409, slot := 3, constantValue := 0 }, { name := "REAL", type := (.object "com/example/querymorph/querymorph/generator/PostgresType"), accessFlags := 16409, slot := 4, constantValue := 0 }, { name := "DOUBLE", type := (.object "com/example/querymorph/querymorph/generator/PostgresType"), accessFlags := 16409, slot := 5, constantValue := 0 }, { name := "TEXT", type := (.object "com/example/querymorph/querymorph/generator/PostgresType"), accessFlags := 16409, slot := 6, constantValue := 0 }, { name := "BOOLEAN", type := (.object "com/example/querymorph/querymorph/generator/PostgresType"), accessFlags := 16409, slot := 7, constantValue := 0 }, { name := "DATE", type := (.object "com/example/querymorph/querymorph/generator/PostgresType"), accessFlags := 16409, slot := 8, constantValue := 0 }, { name := "TIMESTAMP", type := (.object "com/example/querymorph/querymorph/generator/PostgresType"), accessFlags := 16409, slot := 9, constantValue := 0 }, { name := "sql", type := (.object "java/lang/String"), accessFlags := 18, slot := 3, constantValue := 0 }, { name := "category", type := (.object "com/example/querymorph/querymorph/generator/PostgresType$Category"), accessFlags := 18, slot := 4, constantValue := 0 }, { name := "min", type := (.object "java/math/BigDecimal"), accessFlags := 18, slot := 5, constantValue := 0 }, { name := "max", type := (.object "java/math/BigDecimal"), accessFlags := 18, slot := 6, constantValue := 0 }, { name := "$VALUES", type := (.array (.object "com/example/querymorph/querymorph/generator/PostgresType")), accessFlags := 4122, slot := 10, constantValue := 0 }]
  methods := #[k6m0, k6m1, k6m2]
  instanceTypes := #[(.object "java/lang/String"), .int, .int, (.object "java/lang/String"), (.object "com/example/querymorph/querymorph/generator/PostgresType$Category"), (.object "java/math/BigDecimal"), (.object "java/math/BigDecimal")]
  staticTypes := #[(.object "com/example/querymorph/querymorph/generator/PostgresType"), (.object "com/example/querymorph/querymorph/generator/PostgresType"), (.object "com/example/querymorph/querymorph/generator/PostgresType"), (.object "com/example/querymorph/querymorph/generator/PostgresType"), (.object "com/example/querymorph/querymorph/generator/PostgresType"), (.object "com/example/querymorph/querymorph/generator/PostgresType"), (.object "com/example/querymorph/querymorph/generator/PostgresType"), (.object "com/example/querymorph/querymorph/generator/PostgresType"), (.object "com/example/querymorph/querymorph/generator/PostgresType"), (.object "com/example/querymorph/querymorph/generator/PostgresType"), (.array (.object "com/example/querymorph/querymorph/generator/PostgresType"))]
  resolved := Array.replicate 173 none
  statics := some 0 }

def pool7 : Array CpInfo := pool [(1, .class_ 2), (0, u "com/example/querymorph/querymorph/generator/PostgresType$Category"), (2, u "NUMBER"), (0, u "Lcom/example/querymorph/querymorph/generator/PostgresType$Category;"), (2, u "TEXT"), (2, u "BOOLEAN"), (2, u "TIME"), (2, u "$VALUES"), (0, u "[Lcom/example/querymorph/querymorph/generator/PostgresType$Category;"), (6, .class_ 28), (1, u "java/lang/Enum"), (27, .class_ 57), (0, u "com/example/querymorph/querymorph/generator/PostgresType")] 2

/-- com/example/querymorph/querymorph/generator/PostgresType$Category -/
def k7 : Class := { plain "com/example/querymorph/querymorph/generator/PostgresType$Category" (some 5) with
  accessFlags := 16432
  interfaces := #[]
  cf := some (fileOf pool7 1 #[.nestHost 56] #[] 16432 26 #[] #[{ accessFlags := 16409, nameIndex := 5, descriptorIndex := 6, attributes := #[] }, { accessFlags := 16409, nameIndex := 9, descriptorIndex := 6, attributes := #[] }, { accessFlags := 16409, nameIndex := 12, descriptorIndex := 6, attributes := #[] }, { accessFlags := 16409, nameIndex := 15, descriptorIndex := 6, attributes := #[] }, { accessFlags := 4122, nameIndex := 18, descriptorIndex := 19, attributes := #[] }])
  fields := #[{ name := "NUMBER", type := (.object "com/example/querymorph/querymorph/generator/PostgresType$Category"), accessFlags := 16409, slot := 0, constantValue := 0 }, { name := "TEXT", type := (.object "com/example/querymorph/querymorph/generator/PostgresType$Category"), accessFlags := 16409, slot := 1, constantValue := 0 }, { name := "BOOLEAN", type := (.object "com/example/querymorph/querymorph/generator/PostgresType$Category"), accessFlags := 16409, slot := 2, constantValue := 0 }, { name := "TIME", type := (.object "com/example/querymorph/querymorph/generator/PostgresType$Category"), accessFlags := 16409, slot := 3, constantValue := 0 }, { name := "$VALUES", type := (.array (.object "com/example/querymorph/querymorph/generator/PostgresType$Category")), accessFlags := 4122, slot := 4, constantValue := 0 }]
  methods := #[]
  instanceTypes := #[(.object "java/lang/String"), .int, .int]
  staticTypes := #[(.object "com/example/querymorph/querymorph/generator/PostgresType$Category"), (.object "com/example/querymorph/querymorph/generator/PostgresType$Category"), (.object "com/example/querymorph/querymorph/generator/PostgresType$Category"), (.object "com/example/querymorph/querymorph/generator/PostgresType$Category"), (.array (.object "com/example/querymorph/querymorph/generator/PostgresType$Category"))]
  resolved := Array.replicate 60 none
  statics := some 1 }

def pool8 : Array CpInfo := pool [(2, .class_ 4), (1, u "java/lang/Object"), (0, u "<init>"), (0, u "()V"), (1, .class_ 10), (1, u "java/lang/Number"), (2, .class_ 14), (0, u "java/io/Serializable"), (0, u "serialVersionUID"), (0, u "J")] 20

def k8m0 : Method := { name := "<init>", desc := "()V", sig := { parameters := [], returnType := none }, accessFlags := 1, code := none }
/-- java/lang/Number -/
def k8 : Class := { plain "java/lang/Number" (some 0) with
  accessFlags := 1057
  interfaces := #[4]
  cf := some (fileOf pool8 8 #[] #[{ accessFlags := 1, nameIndex := 5, descriptorIndex := 6, attributes := #[] }] 1057 2 #[13] #[{ accessFlags := 26, nameIndex := 15, descriptorIndex := 16, attributes := #[] }])
  fields := #[{ name := "serialVersionUID", type := .long, accessFlags := 26, slot := 0, constantValue := 0 }]
  methods := #[k8m0]
  instanceTypes := #[]
  staticTypes := #[.long]
  resolved := Array.replicate 37 none
  statics := none }

def pool9 : Array CpInfo := pool [(3, .class_ 4), (0, u "java/math/BigDecimal"), (7, .class_ 14), (1, u "java/lang/Number"), (4, u "scale"), (0, u "I"), (2, u "precision"), (2, u "intCompact"), (0, u "J"), (2, u "intVal"), (0, u "Ljava/math/BigInteger;"), (65, u "LONG_TEN_POWERS_TABLE"), (0, u "[J"), (88, u "ZERO"), (2, u "INFLATED_BIGINT"), (15, u "TWO"), (41, u "ZERO_THROUGH_TEN"), (0, u "[Ljava/math/BigDecimal;"), (2, u "ZERO_SCALED_BY"), (60, u "$assertionsDisabled"), (0, u "Z"), (163, u "ONE_TENTH"), (0, u "Ljava/math/BigDecimal;"), (5, u "TEN"), (14, .class_ 502), (1, u "java/math/BigDecimal$1"), (15, u "ONE_HALF"), (16, u "ONE"), (107, u "stringCache"), (0, u "Ljava/lang/String;"), (52, .class_ 699), (1, u "java/math/BigDecimal$LongOverflow"), (8, u "FLOAT_10_POW"), (0, u "[F"), (39, u "DOUBLE_10_POW"), (0, u "[D"), (19, .class_ 772), (1, u "java/math/BigDecimal$StringBuilderHelper"), (35, u "BIG_TEN_POWERS_TABLE_MAX"), (2, u "BIG_TEN_POWERS_TABLE"), (0, u "[Ljava/math/BigInteger;"), (14, u "THRESHOLDS_TABLE"), (23, .class_ 853), (1, u "java/math/BigDecimal$UnsafeHolder"), (214, u "LONGLONG_TEN_POWERS_TABLE"), (0, u "[[J"), (112, u "BIG_TEN_POWERS_TABLE_INITLEN"), (113, .class_ 1297), (0, u "java/lang/Comparable"), (0, u "L"), (0, u "D"), (1, u "P_F"), (1, u "Q_MIN_F"), (1, u "Q_MAX_F"), (1, u "P_D"), (1, u "Q_MIN_D"), (1, u "Q_MAX_D"), (1, u "INFLATED"), (0, u "MAX_COMPACT_DIGITS"), (1, u "serialVersionUID"), (2, u "HALF_LONG_MAX_VALUE"), (0, u "HALF_LONG_MIN_VALUE"), (0, u "ROUND_UP"), (6, u "ROUND_DOWN"), (1, u "ROUND_CEILING"), (1, u "ROUND_FLOOR"), (1, u "ROUND_HALF_UP"), (1, u "ROUND_HALF_DOWN"), (1, u "ROUND_HALF_EVEN"), (1, u "ROUND_UNNECESSARY"), (1, u "DIV_NUM_BASE")] 294

/-- java/math/BigDecimal -/
def k9 : Class := { plain "java/math/BigDecimal" (some 8) with
  accessFlags := 33
  interfaces := #[3]
  cf := some (fileOf pool9 3 #[.nestMembers #[500, 851, 770, 697]] #[] 33 12 #[1296] #[{ accessFlags := 26, nameIndex := 1298, descriptorIndex := 1299, attributes := #[] }, { accessFlags := 26, nameIndex := 1301, descriptorIndex := 20, attributes := #[] }, { accessFlags := 26, nameIndex := 1303, descriptorIndex := 20, attributes := #[] }, { accessFlags := 26, nameIndex := 1305, descriptorIndex := 20, attributes := #[] }, { accessFlags := 26, nameIndex := 1307, descriptorIndex := 20, attributes := #[] }, { accessFlags := 26, nameIndex := 1309, descriptorIndex := 20, attributes := #[] }, { accessFlags := 26, nameIndex := 1311, descriptorIndex := 20, attributes := #[] }, { accessFlags := 18, nameIndex := 30, descriptorIndex := 31, attributes := #[] }, { accessFlags := 18, nameIndex := 19, descriptorIndex := 20, attributes := #[] }, { accessFlags := 130, nameIndex := 23, descriptorIndex := 20, attributes := #[] }, { accessFlags := 130, nameIndex := 643, descriptorIndex := 644, attributes := #[] }, { accessFlags := 24, nameIndex := 1313, descriptorIndex := 27, attributes := #[] }, { accessFlags := 26, nameIndex := 190, descriptorIndex := 31, attributes := #[] }, { accessFlags := 146, nameIndex := 26, descriptorIndex := 27, attributes := #[] }, { accessFlags := 26, nameIndex := 1314, descriptorIndex := 20, attributes := #[] }, { accessFlags := 26, nameIndex := 1316, descriptorIndex := 27, attributes := #[] }, { accessFlags := 26, nameIndex := 248, descriptorIndex := 249, attributes := #[] }, { accessFlags := 26, nameIndex := 252, descriptorIndex := 249, attributes := #[] }, { accessFlags := 26, nameIndex := 1319, descriptorIndex := 27, attributes := #[] }, { accessFlags := 26, nameIndex := 1320, descriptorIndex := 27, attributes := #[] }, { accessFlags := 25, nameIndex := 187, descriptorIndex := 479, attributes := #[] }, { accessFlags := 25, nameIndex := 535, descriptorIndex := 479, attributes := #[] }, { accessFlags := 25, nameIndex := 206, descriptorIndex := 479, attributes := #[] }, { accessFlags := 25, nameIndex := 485, descriptorIndex := 479, attributes := #[] }, { accessFlags := 26, nameIndex := 478, descriptorIndex := 479, attributes := #[] }, { accessFlags := 26, nameIndex := 518, descriptorIndex := 479, attributes := #[] }, { accessFlags := 25, nameIndex := 1321, descriptorIndex := 20, attributes := #[] }, { accessFlags := 25, nameIndex := 1328, descriptorIndex := 20, attributes := #[] }, { accessFlags := 25, nameIndex := 1330, descriptorIndex := 20, attributes := #[] }, { accessFlags := 25, nameIndex := 1332, descriptorIndex := 20, attributes := #[] }, { accessFlags := 25, nameIndex := 1334, descriptorIndex := 20, attributes := #[] }, { accessFlags := 25, nameIndex := 1336, descriptorIndex := 20, attributes := #[] }, { accessFlags := 25, nameIndex := 1338, descriptorIndex := 20, attributes := #[] }, { accessFlags := 25, nameIndex := 1340, descriptorIndex := 20, attributes := #[] }, { accessFlags := 26, nameIndex := 749, descriptorIndex := 750, attributes := #[] }, { accessFlags := 26, nameIndex := 708, descriptorIndex := 709, attributes := #[] }, { accessFlags := 26, nameIndex := 97, descriptorIndex := 98, attributes := #[] }, { accessFlags := 74, nameIndex := 811, descriptorIndex := 812, attributes := #[] }, { accessFlags := 26, nameIndex := 1182, descriptorIndex := 20, attributes := #[] }, { accessFlags := 26, nameIndex := 808, descriptorIndex := 20, attributes := #[] }, { accessFlags := 26, nameIndex := 827, descriptorIndex := 98, attributes := #[] }, { accessFlags := 26, nameIndex := 1342, descriptorIndex := 27, attributes := #[] }, { accessFlags := 26, nameIndex := 1068, descriptorIndex := 1069, attributes := #[] }, { accessFlags := 4120, nameIndex := 313, descriptorIndex := 314, attributes := #[] }])
  fields := #[{ name := "L", type := .double, accessFlags := 26, slot := 0, constantValue := 0 }, { name := "P_F", type := .int, accessFlags := 26, slot := 1, constantValue := 0 }, { name := "Q_MIN_F", type := .int, accessFlags := 26, slot := 2, constantValue := 0 }, { name := "Q_MAX_F", type := .int, accessFlags := 26, slot := 3, constantValue := 0 }, { name := "P_D", type := .int, accessFlags := 26, slot := 4, constantValue := 0 }, { name := "Q_MIN_D", type := .int, accessFlags := 26, slot := 5, constantValue := 0 }, { name := "Q_MAX_D", type := .int, accessFlags := 26, slot := 6, constantValue := 0 }, { name := "intVal", type := (.object "java/math/BigInteger"), accessFlags := 18, slot := 0, constantValue := 0 }, { name := "scale", type := .int, accessFlags := 18, slot := 1, constantValue := 0 }, { name := "precision", type := .int, accessFlags := 130, slot := 2, constantValue := 0 }, { name := "stringCache", type := (.object "java/lang/String"), accessFlags := 130, slot := 3, constantValue := 0 }, { name := "INFLATED", type := .long, accessFlags := 24, slot := 7, constantValue := 0 }, { name := "INFLATED_BIGINT", type := (.object "java/math/BigInteger"), accessFlags := 26, slot := 8, constantValue := 0 }, { name := "intCompact", type := .long, accessFlags := 146, slot := 4, constantValue := 0 }, { name := "MAX_COMPACT_DIGITS", type := .int, accessFlags := 26, slot := 9, constantValue := 0 }, { name := "serialVersionUID", type := .long, accessFlags := 26, slot := 10, constantValue := 0 }, { name := "ZERO_THROUGH_TEN", type := (.array (.object "java/math/BigDecimal")), accessFlags := 26, slot := 11, constantValue := 0 }, { name := "ZERO_SCALED_BY", type := (.array (.object "java/math/BigDecimal")), accessFlags := 26, slot := 12, constantValue := 0 }, { name := "HALF_LONG_MAX_VALUE", type := .long, accessFlags := 26, slot := 13, constantValue := 0 }, { name := "HALF_LONG_MIN_VALUE", type := .long, accessFlags := 26, slot := 14, constantValue := 0 }, { name := "ZERO", type := (.object "java/math/BigDecimal"), accessFlags := 25, slot := 15, constantValue := 0 }, { name := "ONE", type := (.object "java/math/BigDecimal"), accessFlags := 25, slot := 16, constantValue := 0 }, { name := "TWO", type := (.object "java/math/BigDecimal"), accessFlags := 25, slot := 17, constantValue := 0 }, { name := "TEN", type := (.object "java/math/BigDecimal"), accessFlags := 25, slot := 18, constantValue := 0 }, { name := "ONE_TENTH", type := (.object "java/math/BigDecimal"), accessFlags := 26, slot := 19, constantValue := 0 }, { name := "ONE_HALF", type := (.object "java/math/BigDecimal"), accessFlags := 26, slot := 20, constantValue := 0 }, { name := "ROUND_UP", type := .int, accessFlags := 25, slot := 21, constantValue := 0 }, { name := "ROUND_DOWN", type := .int, accessFlags := 25, slot := 22, constantValue := 0 }, { name := "ROUND_CEILING", type := .int, accessFlags := 25, slot := 23, constantValue := 0 }, { name := "ROUND_FLOOR", type := .int, accessFlags := 25, slot := 24, constantValue := 0 }, { name := "ROUND_HALF_UP", type := .int, accessFlags := 25, slot := 25, constantValue := 0 }, { name := "ROUND_HALF_DOWN", type := .int, accessFlags := 25, slot := 26, constantValue := 0 }, { name := "ROUND_HALF_EVEN", type := .int, accessFlags := 25, slot := 27, constantValue := 0 }, { name := "ROUND_UNNECESSARY", type := .int, accessFlags := 25, slot := 28, constantValue := 0 }, { name := "DOUBLE_10_POW", type := (.array .double), accessFlags := 26, slot := 29, constantValue := 0 }, { name := "FLOAT_10_POW", type := (.array .float), accessFlags := 26, slot := 30, constantValue := 0 }, { name := "LONG_TEN_POWERS_TABLE", type := (.array .long), accessFlags := 26, slot := 31, constantValue := 0 }, { name := "BIG_TEN_POWERS_TABLE", type := (.array (.object "java/math/BigInteger")), accessFlags := 74, slot := 32, constantValue := 0 }, { name := "BIG_TEN_POWERS_TABLE_INITLEN", type := .int, accessFlags := 26, slot := 33, constantValue := 0 }, { name := "BIG_TEN_POWERS_TABLE_MAX", type := .int, accessFlags := 26, slot := 34, constantValue := 0 }, { name := "THRESHOLDS_TABLE", type := (.array .long), accessFlags := 26, slot := 35, constantValue := 0 }, { name := "DIV_NUM_BASE", type := .long, accessFlags := 26, slot := 36, constantValue := 0 }, { name := "LONGLONG_TEN_POWERS_TABLE", type := (.array (.array .long)), accessFlags := 26, slot := 37, constantValue := 0 }, { name := "$assertionsDisabled", type := .boolean, accessFlags := 4120, slot := 38, constantValue := 0 }]
  methods := #[]
  instanceTypes := #[(.object "java/math/BigInteger"), .int, .int, (.object "java/lang/String"), .long]
  staticTypes := #[.double, .int, .int, .int, .int, .int, .int, .long, (.object "java/math/BigInteger"), .int, .long, (.array (.object "java/math/BigDecimal")), (.array (.object "java/math/BigDecimal")), .long, .long, (.object "java/math/BigDecimal"), (.object "java/math/BigDecimal"), (.object "java/math/BigDecimal"), (.object "java/math/BigDecimal"), (.object "java/math/BigDecimal"), (.object "java/math/BigDecimal"), .int, .int, .int, .int, .int, .int, .int, .int, (.array .double), (.array .float), (.array .long), (.array (.object "java/math/BigInteger")), .int, .int, (.array .long), .long, (.array (.array .long)), .boolean]
  resolved := Array.replicate 1637 none
  statics := none }

def pool10 : Array CpInfo := pool [(1, u "java/lang/Cloneable"), (0, .class_ 1), (0, u "java/lang/Object"), (0, .class_ 3)] 3

/-- java/lang/Cloneable -/
def k10 : Class := { plain "java/lang/Cloneable" (some 0) with
  accessFlags := 1537
  interfaces := #[]
  cf := some (fileOf pool10 2 #[] #[] 1537 4 #[] #[])
  fields := #[]
  methods := #[]
  instanceTypes := #[]
  staticTypes := #[]
  resolved := Array.replicate 8 none
  statics := none }

/-- the primitive byte -/
def k11 : Class := { plain "byte" none with kind := .primitive 'B', accessFlags := 0x411 }
/-- [B -/
def k12 : Class := { plain "[B" (some 0) with kind := .array 11 .byte, interfaces := #[10, 4], accessFlags := 1041 }

/-- the primitive int -/
def k13 : Class := { plain "int" none with kind := .primitive 'I', accessFlags := 0x411 }
/-- [I -/
def k14 : Class := { plain "[I" (some 0) with kind := .array 13 .int, interfaces := #[10, 4], accessFlags := 1041 }

def heap : Heap := #[{ cls := 6, slots := #[.ref 7, .ref 8, .ref 9, .ref 10, .ref 11, .ref 12, .ref 13, .ref 14, .ref 15, .ref 16, .null], vm := .statics 6 },
  { cls := 7, slots := #[.ref 2, .ref 3, .ref 4, .ref 5, .null], vm := .statics 7 },
  { cls := 7, slots := #[.null, .int 0, .int 0], vm := .none },
  { cls := 7, slots := #[.null, .int 1, .int 0], vm := .none },
  { cls := 7, slots := #[.null, .int 2, .int 0], vm := .none },
  { cls := 7, slots := #[.null, .int 3, .int 0], vm := .none },
  { cls := 9, slots := #[.null, .int 0, .int 0, .null, .long 0], vm := .none },
  { cls := 6, slots := #[.null, .int 0, .int 0, .null, .ref 2, .ref 6, .null], vm := .none },
  { cls := 6, slots := #[.null, .int 1, .int 0, .null, .ref 2, .ref 6, .null], vm := .none },
  { cls := 6, slots := #[.null, .int 2, .int 0, .null, .ref 2, .ref 6, .null], vm := .none },
  { cls := 6, slots := #[.null, .int 3, .int 0, .null, .ref 2, .null, .null], vm := .none },
  { cls := 6, slots := #[.null, .int 4, .int 0, .null, .ref 2, .null, .null], vm := .none },
  { cls := 6, slots := #[.null, .int 5, .int 0, .null, .ref 2, .null, .null], vm := .none },
  { cls := 6, slots := #[.null, .int 6, .int 0, .null, .ref 3, .null, .null], vm := .none },
  { cls := 6, slots := #[.null, .int 7, .int 0, .null, .ref 4, .null, .null], vm := .none },
  { cls := 6, slots := #[.null, .int 8, .int 0, .null, .ref 5, .null, .null], vm := .none },
  { cls := 6, slots := #[.null, .int 9, .int 0, .null, .ref 5, .null, .null], vm := .none }]
def classes : Array Class := #[k0, k1, k2, k3, k4, k5, k6, k7, k8, k9, k10, k11, k12, k13, k14]
def interned : List (Array UInt16 × Addr) := []
def slotsUsed : Nat := 103
def theMethod : MethodId := ⟨1, 2⟩
def args0 : Array Value := #[.int 4]
def aboutOver (below : List Frame) : State where
  vm := { classes := classes, interned := interned.toArray }
  heap := heap
  slotsUsed := slotsUsed
  threads := #[{ frames := .invoking theMethod args0 :: below }]
def below0 : List Frame := [.native { method := ⟨0, 0⟩, args := #[] }]
def about1 : State := aboutOver below0
def p0 : Program := .bare "" "" ""
def e0 : Env := launch0.env 0 0 0
theorem w_frames : about1.frames = Frame.invoking theMethod args0 :: below0 := rfl
set_option maxRecDepth 65536 in
theorem w_args : argsFit about1.vm theMethod args0 = true := by decide +kernel
set_option maxRecDepth 65536 in
theorem w_heap : heapFits about1 = true := by decide +kernel
set_option maxRecDepth 65536 in
theorem w_runnable : about1.curStatus? = some .runnable := by decide +kernel
set_option maxRecDepth 65536 in
theorem w_alone : about1.alone = true := by decide +kernel
set_option maxRecDepth 65536 in
theorem w_named : about1.methodNamed? x = some theMethod := by decide +kernel
set_option maxRecDepth 65536 in
theorem w_hears : about1.hears theMethod below0 = true := by decide +kernel
set_option maxRecDepth 65536 in
theorem w_ripe : about1.ripe theMethod args0 below0 = true := by decide +kernel
theorem w_running : about1.status = .running := rfl
set_option maxRecDepth 65536 in
theorem w_room : about1.hasRoom e0.platform room_1 = true :=
  launch0.hasRoom_least _ room_1 (by decide +kernel) (by decide +kernel) (by decide +kernel) (by decide +kernel) (by decide +kernel) (by decide +kernel)
theorem allAtoms_all (ts : List Jvm.Cond) (a : Array Jvm.Value) (st : Jvm.State) : (allAtoms ts).before a st = ts.all (fun c => c.before a st) := by
  induction ts with
  | nil => rfl
  | cons c t ih =>
    show (Jvm.Cond.and c (allAtoms t)).before a st = _
    rw [Jvm.Cond.before_and, ih, List.all_cons]
def words1 : List Jvm.Cond := Jvm.Cond.code x code maxLocals ret :: tables_1
/-- a 'code' word, met by the world's own term for the bytes: nothing is compared byte by byte -/
theorem code_word {y : MethodName} {bytes : ByteArray} {mx : Nat} {rt : Option FieldType} {a : Array Value} {s : State} {m : MethodId} {meth : Method} {c : Code} (h1 : s.methodNamed? y = some m) (h2 : s.vm.method? m = some meth) (h3 : meth.code = some c) (h4 : c.code = bytes)
    (h5 : (c.maxLocals == mx && c.exceptionTable.isEmpty && decide (c.maxStack ≤ mostOperands) && decide (meth.sig.returnType = rt) && !meth.locks && decide (parseMethodDescriptor y.desc = some meth.sig)) = true) : (Jvm.Cond.code y bytes mx rt).before a s = true := by
  simp only [Bool.and_eq_true, beq_iff_eq, Bool.not_eq_true', decide_eq_true_eq] at h5
  obtain ⟨⟨⟨⟨⟨g1, g2⟩, g3⟩, g4⟩, g5⟩, g6⟩ := h5
  simp [Cond.before, Cond.holds, Cond.value, h1, h2, h3, h4, g1, g2, g3, g4, g5, g6]
def isCode : Jvm.Cond → Bool
  | .code _ _ _ _ => true
  | _ => false
theorem all_split {L : List Jvm.Cond} {P : Jvm.Cond → Bool} (h1 : L.all (fun c => isCode c || P c) = true) (h2 : ∀ c ∈ L.filter isCode, P c = true) : L.all P = true := by
  refine List.all_eq_true.mpr fun c hc => ?_
  have h := List.all_eq_true.mp h1 c hc
  rcases Bool.eq_false_or_eq_true (isCode c) with hi | hi
  · exact h2 c (List.mem_filter.mpr ⟨hc, hi⟩)
  · simpa [hi] using h
set_option maxRecDepth 65536 in
theorem w_c0 : (Jvm.Cond.code x code maxLocals ret).before args0 about1 = true := code_word (m := ⟨1, 2⟩) (meth := k1m2) (c := k1c2) (by decide +kernel) rfl rfl rfl (by decide +kernel)
set_option maxRecDepth 65536 in
theorem w_c1 : (Jvm.Cond.code ({ cls := "com/example/querymorph/querymorph/generator/PostgresTypeIsFloatPinLaw", name := "pick", desc := "(I)Lcom/example/querymorph/querymorph/generator/PostgresType;" } : Jvm.MethodName) method_2_code (1 : Nat) (Option.some (Jvm.ClassFile.FieldType.object "com/example/querymorph/querymorph/generator/PostgresType"))).before args0 about1 = true := code_word (m := ⟨1, 1⟩) (meth := k1m1) (c := k1c1) (by decide +kernel) rfl rfl rfl (by decide +kernel)
set_option maxRecDepth 65536 in
theorem w_c2 : (Jvm.Cond.code ({ cls := "com/example/querymorph/querymorph/generator/PostgresType", name := "isFloat", desc := "()Z" } : Jvm.MethodName) prog_152_method_8_code (1 : Nat) (Option.some Jvm.ClassFile.FieldType.boolean)).before args0 about1 = true := code_word (m := ⟨6, 2⟩) (meth := k6m2) (c := k6c2) (by decide +kernel) rfl rfl rfl (by decide +kernel)
set_option maxRecDepth 65536 in
theorem w_c3 : (Jvm.Cond.code ({ cls := "com/example/querymorph/querymorph/generator/PostgresType", name := "category", desc := "()Lcom/example/querymorph/querymorph/generator/PostgresType$Category;" } : Jvm.MethodName) prog_152_method_6_code (1 : Nat) (Option.some (Jvm.ClassFile.FieldType.object "com/example/querymorph/querymorph/generator/PostgresType$Category"))).before args0 about1 = true := code_word (m := ⟨6, 0⟩) (meth := k6m0) (c := k6c0) (by decide +kernel) rfl rfl rfl (by decide +kernel)
set_option maxRecDepth 65536 in
theorem w_c4 : (Jvm.Cond.code ({ cls := "com/example/querymorph/querymorph/generator/PostgresType", name := "isInteger", desc := "()Z" } : Jvm.MethodName) prog_152_method_7_code (1 : Nat) (Option.some Jvm.ClassFile.FieldType.boolean)).before args0 about1 = true := code_word (m := ⟨6, 1⟩) (meth := k6m1) (c := k6c1) (by decide +kernel) rfl rfl rfl (by decide +kernel)
def codes1 : List Jvm.Cond := [Jvm.Cond.code x code maxLocals ret, Jvm.Cond.code ({ cls := "com/example/querymorph/querymorph/generator/PostgresTypeIsFloatPinLaw", name := "pick", desc := "(I)Lcom/example/querymorph/querymorph/generator/PostgresType;" } : Jvm.MethodName) method_2_code (1 : Nat) (Option.some (Jvm.ClassFile.FieldType.object "com/example/querymorph/querymorph/generator/PostgresType")), Jvm.Cond.code ({ cls := "com/example/querymorph/querymorph/generator/PostgresType", name := "isFloat", desc := "()Z" } : Jvm.MethodName) prog_152_method_8_code (1 : Nat) (Option.some Jvm.ClassFile.FieldType.boolean), Jvm.Cond.code ({ cls := "com/example/querymorph/querymorph/generator/PostgresType", name := "category", desc := "()Lcom/example/querymorph/querymorph/generator/PostgresType$Category;" } : Jvm.MethodName) prog_152_method_6_code (1 : Nat) (Option.some (Jvm.ClassFile.FieldType.object "com/example/querymorph/querymorph/generator/PostgresType$Category")), Jvm.Cond.code ({ cls := "com/example/querymorph/querymorph/generator/PostgresType", name := "isInteger", desc := "()Z" } : Jvm.MethodName) prog_152_method_7_code (1 : Nat) (Option.some Jvm.ClassFile.FieldType.boolean)]
set_option maxRecDepth 65536 in
theorem codes_eq : words1.filter isCode = codes1 := rfl
theorem w_codes : ∀ c ∈ words1.filter isCode, c.before args0 about1 = true := by
  rw [codes_eq]
  intro c hc
  simp only [codes1, List.mem_cons, List.not_mem_nil, or_false] at hc
  rcases hc with rfl | rfl | rfl | rfl | rfl
  · exact w_c0
  · exact w_c1
  · exact w_c2
  · exact w_c3
  · exact w_c4
set_option maxRecDepth 65536 in
theorem w_t1 : (words1.take 24).all (fun c => isCode c || c.before args0 about1) = true := by decide +kernel
set_option maxRecDepth 65536 in
theorem w_t2 : ((words1.drop 24).take 24).all (fun c => isCode c || c.before args0 about1) = true := by decide +kernel
set_option maxRecDepth 65536 in
theorem w_t3 : ((words1.drop 24).drop 24).all (fun c => isCode c || c.before args0 about1) = true := by decide +kernel
theorem w_tables : (allAtoms (Jvm.Cond.code x code maxLocals ret :: tables_1)).before args0 about1 = true := by
  rw [allAtoms_all]
  show words1.all (fun c => c.before args0 about1) = true
  refine all_split ?_ w_codes
  rw [← List.take_append_drop 24 words1, List.all_append, w_t1, ← List.take_append_drop 24 (words1.drop 24), List.all_append, w_t2, w_t3]
  rfl
set_option maxRecDepth 65536 in
theorem w_case : (Jvm.Cond.and given_1 narrow_1).before args0 about1 = true := by decide +kernel
theorem w_applies : (headSpec (Jvm.Cond.code x code maxLocals ret :: tables_1) room_1).applies x e0.platform about1 = true :=
  (Spec.applies_iff w_frames).mpr ⟨w_running, w_runnable, w_alone, w_named, w_hears, w_ripe, w_room, w_tables⟩
theorem atStart : AtStart classFile x code maxLocals ret World_1 tables_1 room_1 Calls_1 rest_1 Pre_1 launch0 p0 e0 about1 theMethod args0 below0 :=
  ⟨lists_1, trivial, launch0.admits_env _ _ _, launch0.least_env, fairChoices_fair.cas, fairChoices_fair.clock, w_frames, w_args, w_heap, w_applies, trivial, trivial, w_case⟩
end start1
theorem witness_1 : WitnessClaimed_1 := ⟨start1.p0, start1.e0, start1.about1, start1.theMethod, start1.args0, start1.below0, start1.atStart⟩
end Jvm.Pilot.@@N@@
