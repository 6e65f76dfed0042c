import JvmDerived
import JvmDerived.Pilot.@@N@@Statement
import JvmDerived.Pilot.@@N@@Code
set_option linter.unusedVariables false
set_option linter.unusedSimpArgs false
@@BLOCK:NumsL.lean.txt@@
namespace Jvm.RoadKit
open Sem ClassFile Op Lib Jvm.Stand Jvm.Free Jvm.LawKit
section New
variable {p : Program} {l : Launch} {e : Env} {R : Room} {s : State} {m : MethodId} {args : Array Value} {below : List Frame} {meth : Method} {c : Code} {T : State} {locs : List Loc} {cells slots : Nat}
theorem retI (X : Stand p l e R s m args below meth c T locs cells slots) (hx : p.tables.exec = Jvm.exec) {pc : Nat} {Ls : Array Slot} {z : Int32} {rest : List Value} (hret : meth.sig.returnType = some .int) (hd : decode c.code pc = .ok (.ireturn, 1)) {fs : List Frame}
    (hl : ∀ (f : JFrame) (acts : List Action), f.method = m → f.locked = none → f.entered = [] → (doReturn e (T.setTop f) acts (some (.int z))).1 = T.setFrames fs) : Steps p.tables e below (T.setTop (mkF m pc Ls (.int z :: rest))) (T.setFrames fs) := by
  have hm' : T.vm.method? m = some meth := X.method'
  have hn : narrow .int (.int z) = .int z := rfl
  show Steps p.tables e below (T.setTop { method := m, pc := pc, locals := Ls, stack := _ :: rest, locked := none }) _
  jvm_step X.here [X.here.top, hx, hd, hm', hret, hn]
  first | (intro acts; rw [hl _ acts rfl rfl rfl]) | rw [hl _ _ rfl rfl rfl]
  exact Steps.refl _
end New
end Jvm.RoadKit
namespace Jvm.Pilot.@@N@@
open Jvm Jvm.ClassFile Sem Op Lib Jvm.Free Jvm.Stand Jvm.LawKit Jvm.RoadKit Bundle Jvm.Pilot.@@N@@.Jvm.D
def own_isf (a r d : Addr) : Int32 := if a = r then 1 else if a = d then 1 else 0
theorem own_isf_a {a r d : Addr} (h : a = r) : own_isf a r d = (1 : Int32) := by unfold own_isf; rw [if_pos h]
theorem own_isf_b {a r d : Addr} (h : ¬ a = r) (g : a = d) : own_isf a r d = (1 : Int32) := by unfold own_isf; rw [if_neg h, if_pos g]
theorem own_isf_0 {a r d : Addr} (h : ¬ a = r) (g : ¬ a = d) : own_isf a r d = (0 : Int32) := by unfold own_isf; rw [if_neg h, if_neg g]
theorem own_six (x : Int32) : ((x &&& (2147483647 : Int32)) % (6 : Int32)) = (0 : Int32) ∨ ((x &&& (2147483647 : Int32)) % (6 : Int32)) = (1 : Int32) ∨ ((x &&& (2147483647 : Int32)) % (6 : Int32)) = (2 : Int32) ∨ ((x &&& (2147483647 : Int32)) % (6 : Int32)) = (3 : Int32) ∨ ((x &&& (2147483647 : Int32)) % (6 : Int32)) = (4 : Int32) ∨ ((x &&& (2147483647 : Int32)) % (6 : Int32)) = (5 : Int32) := by
  have e : (x &&& (2147483647 : Int32)).toInt = x.toInt % 2 ^ 31 := Jvm.Kit.i32_mask x 2147483647 (k := 31) (by decide) (by decide)
  have r : ((x &&& (2147483647 : Int32)) % (6 : Int32)).toInt = (x &&& (2147483647 : Int32)).toInt % (6 : Int32).toInt := Jvm.Kit.i32_rem_nonneg (by omega)
  have e6 : (6 : Int32).toInt = 6 := rfl
  rw [e6] at r
  generalize (x &&& (2147483647 : Int32)) % (6 : Int32) = j at *
  have l : j.toInt = 0 ∨ j.toInt = 1 ∨ j.toInt = 2 ∨ j.toInt = 3 ∨ j.toInt = 4 ∨ j.toInt = 5 := by omega
  rcases l with l | l | l | l | l | l
  · exact Or.inl (Int32.toInt_inj.mp (l.trans (by rfl)))
  · exact Or.inr (Or.inl (Int32.toInt_inj.mp (l.trans (by rfl))))
  · exact Or.inr (Or.inr (Or.inl (Int32.toInt_inj.mp (l.trans (by rfl)))))
  · exact Or.inr (Or.inr (Or.inr (Or.inl (Int32.toInt_inj.mp (l.trans (by rfl))))))
  · exact Or.inr (Or.inr (Or.inr (Or.inr (Or.inl (Int32.toInt_inj.mp (l.trans (by rfl)))))))
  · exact Or.inr (Or.inr (Or.inr (Or.inr (Or.inr ((Int32.toInt_inj.mp (l.trans (by rfl))))))))
section OwnTerms
variable {args : Array Value} {s : State}
theorem own_eqI {a : Term} {n : Int32} (h : (Jvm.Cond.eq a (.int n)).value args s none s [] = some true) : a.eval args s none [] s = some (.int n) := by
  obtain ⟨x, y, hx, hy, -, k2⟩ := cmp_v (Or.inl h)
  obtain rfl : y = .int n := (Option.some.inj hy).symm
  obtain ⟨z, rfl⟩ := k2
  rw [hx, gotT (Cond.eq_ints hx (Term.int_eval n)) h]
theorem own_eqR {a b : Term} {y : Addr} (hb : b.eval args s none [] s = some (.ref y)) (h : (Jvm.Cond.eq a b).value args s none s [] = some true) : a.eval args s none [] s = some (.ref y) := by
  obtain ⟨x, y', hx, hy, -, k2⟩ := cmp_v (Or.inl h)
  cases hb.symm.trans hy
  rw [hx, gotT (eq_R hx hb k2.2 rfl) h]
theorem own_fld {t : Term} {C n d : String} {a : Addr} {v : Value} (ht : t.eval args s none [] s = some (.ref a)) (h : (Term.field t C n d).eval args s none [] s = some v) : Fld s s.heap a C n d v := Fld.start ((fld_at ht).symm.trans h)
end OwnTerms
/-- the array at a: six references, the first n as the list has them -/
def own_arr (Z : State) (h : Heap) (a : Addr) (kA : ClassId) (bs : List Addr) (n : Nat) : Prop := ∃ c : Cell, Arr Z h a c (.object "com/example/rbac_check/rbaccheck/policy/Condition$Operator") ∧ c.cls = kA ∧ c.slots.size = 6 ∧ ∀ j, j < n → c.slots[j]? = some (.ref (bs.getD j 0))
theorem own_arr_new {Z : State} {h : Heap} {a : Addr} {k : ClassId} {bs : List Addr} (A : Arr Z h a (newA k (.object "com/example/rbac_check/rbaccheck/policy/Condition$Operator") (6 : Int32)) (.object "com/example/rbac_check/rbaccheck/policy/Condition$Operator")) : own_arr Z h a k bs 0 := ⟨_, A, rfl, sz_new _ _ _, fun j q => absurd q (Nat.not_lt_zero _)⟩
theorem own_arr_put {Z : State} {h h' : Heap} {a : Addr} {k : ClassId} {bs : List Addr} {c : Cell} {n : Nat} (A : Arr Z h a c (.object "com/example/rbac_check/rbaccheck/policy/Condition$Operator")) (q : c.cls = k) (S : c.slots.size = 6) (H : ∀ j, j < n → c.slots[j]? = some (.ref (bs.getD j 0))) {i : Nat} {v : Value} (W : Wr h h' a i v) (hi : i = n) (hv : v = .ref (bs.getD n 0)) (hn : n < 6) : own_arr Z h' a k bs (n + 1) := by
  subst hi hv
  refine ⟨_, A.same W, q, by rw [sz_set]; exact S, fun j q => ?_⟩
  show (c.slots.setIfInBounds i (.ref (bs.getD i 0)))[j]? = _
  by_cases e : i = j
  · subst e; rw [Array.getElem?_setIfInBounds_self_of_lt (by omega)]
  · rw [Array.getElem?_setIfInBounds_ne e]; exact H j (by omega)
theorem own_length_eval {args : Array Value} {s : State} (t : Term) : (Term.length t).eval args s none [] s = (t.eval args s none [] s).bind fun v => match v with
    | .ref a => (s.arrayAt? a).bind fun c => if c.slots.size < 2 ^ 31 then some (.int c.slots.size.toInt32) else none
    | _ => none := rfl
theorem own_len {args : Array Value} {s : State} {t : Term} {a : Addr} {cl : Cell} {N : Int32} (ht : t.eval args s none [] s = some (.ref a)) (ha : s.arrayAt? a = some cl) (h : (Term.length t).eval args s none [] s = some (.int N)) : cl.slots.size = N.toNatClampNeg ∧ ¬ N < (0 : Int32) := by
  rcases Nat.lt_or_ge cl.slots.size (2 ^ 31) with q | q
  · have e := len_f ht ha q
    have e2 : cl.slots.size.toInt32 = N := Value.int.inj (Option.some.inj (e.symm.trans h))
    have e3 := len_toInt q
    subst e2
    refine ⟨?_, ?_⟩
    · show _ = (cl.slots.size.toInt32).toInt.toNat
      rw [e3]; rfl
    · rw [Int32.lt_iff_toInt_lt, e3]
      show ¬ (cl.slots.size : Int) < 0
      omega
  · have e : (Term.length t).eval args s none [] s = none := by
      rw [own_length_eval, ht]
      show (s.arrayAt? a).bind _ = none
      rw [ha]
      show (if cl.slots.size < 2 ^ 31 then _ else none) = none
      rw [if_neg (Nat.not_lt.mpr q)]
    rw [e] at h; cases h
/-- from S the run comes to a return at which R holds -/
def Goes (p : Program) (e : Env) (below : List Frame) (R : State → Outcome → Prop) (S : State) : Prop := ∃ s₂ o, Steps p.tables e below S s₂ ∧ s₂.status = .running ∧ Ended s₂ below o ∧ R s₂ o
theorem Goes.step {p : Program} {e : Env} {below : List Frame} {R : State → Outcome → Prop} {S S' : State} (h : ∀ t, Steps p.tables e below S' t → Steps p.tables e below S t) (g : Goes p e below R S') : Goes p e below R S := by
  obtain ⟨s₂, o, h1, h2⟩ := g
  exact ⟨s₂, o, h _ h1, h2⟩
theorem dp_0 : decode jdk_41_method_11_code 0 = .ok (.iload_n 0, 1) := by decide +kernel
theorem dp_1 : decode jdk_41_method_11_code 1 = .ok (.ifCond .lt 8, 3) := by decide +kernel
theorem dp_4 : decode jdk_41_method_11_code 4 = .ok (.iload_n 0, 1) := by decide +kernel
theorem dp_5 : decode jdk_41_method_11_code 5 = .ok (.iload_n 1, 1) := by decide +kernel
theorem dp_6 : decode jdk_41_method_11_code 6 = .ok (.if_icmp .lt 10, 3) := by decide +kernel
theorem dp_16 : decode jdk_41_method_11_code 16 = .ok (.iload_n 0, 1) := by decide +kernel
theorem dp_17 : decode jdk_41_method_11_code 17 = .ok (.ireturn, 1) := by decide +kernel
theorem pn_p : plainName "jdk/internal/util/Preconditions" = true := by first | (simp [plainName, overriddenIn]; done) | decide +kernel
theorem pd_p : parseMethodDescriptor "(IILjava/util/function/BiFunction;)I" = some ⟨[.int, .int, (.object "java/util/function/BiFunction")], some .int⟩ := by decide +kernel
theorem ef_p (m : MethodId) (y0 : Int32) (y1 : Int32) (y2 : Addr) : entryFrame m #[(.int y0), (.int y1), (.ref y2)] 3 = mkF m 0 #[.val (.int y0), .val (.int y1), .val (.ref y2)] [] := by first | (simp [entryFrame, mkF, argsToLocals, Value.category]; done) | rfl
def Qp (Z : State) (p1 : Int32) (p2 : Int32) (a3 : Addr) (h0 : Heap) (n0 : Nat) (v : Option Value) (h : Heap) (L : List Loc) : Prop := v = some (.int p1) ∧ Fr n0 L ∧ h = h0
def Rp (Z : State) (p1 : Int32) (p2 : Int32) (a3 : Addr) (h0 : Heap) (n0 : Nat) (U : State) (U' : State) (o : Outcome) : Prop := ∃ v L, o = .returned v ∧ Qp Z p1 p2 a3 h0 n0 v U'.heap L ∧ FrameEnd U o U' L ({ frames := 0, cells := 0, slots := 0, locals := 0 } : Room).cells ({ frames := 0, cells := 0, slots := 0, locals := 0 } : Room).slots
set_option maxRecDepth 65536 in
set_option maxHeartbeats 40000000 in
theorem rmp (l : Launch) (Z : State) (a0 : Array Value) (hw : ∀ d ∈ tables_1, d.before a0 Z = true) (ws : List Jvm.Cond) (p1 : Int32) (p2 : Int32) (a3 : Addr) (h0 : Heap) (n0 : Nat) (Z0 : n0 ≤ h0.size) (c1 : ¬ p1 < (0 : Int32)) (c2 : p1 < p2) :
    MetFree l (⟨"jdk/internal/util/Preconditions", "checkIndex", "(IILjava/util/function/BiFunction;)I"⟩ : MethodName) (head1 (Jvm.Cond.code (⟨"jdk/internal/util/Preconditions", "checkIndex", "(IILjava/util/function/BiFunction;)I"⟩ : MethodName) jdk_41_method_11_code 3 (some .int) :: ws) ({ frames := 0, cells := 0, slots := 0, locals := 0 } : Room)) (fun a U => a = #[(.int p1), (.int p2), (.ref a3)] ∧ Z.Warmed39 U.vm ∧ U.heap = h0) (fun _ _ _ _ _ => True) (fun _ U o U' => ∃ v L, o = .returned v ∧ Qp Z p1 p2 a3 h0 n0 v U'.heap L ∧ FrameEnd U o U' L ({ frames := 0, cells := 0, slots := 0, locals := 0 } : Room).cells ({ frames := 0, cells := 0, slots := 0, locals := 0 } : Room).slots) := by
  refine MetFree.of_bodySF (plainFor_of_name pn_p) hisR ?_
  intro p e s m args below meth c s₁ Bd hml0 hP hK
  obtain ⟨rfl, hZ, hh⟩ := hP
  have hx := Bd.exec
  have hby := Bd.bytes
  have hml : c.maxLocals = 3 := hml0
  have hown : s.vm.findClass "jdk/internal/util/Preconditions" = some m.cls := findClass_of_methodNamed Bd.named
  have hnm := (name_of_methodNamed Bd.named Bd.method).1
  have X0 : Stand p l e ({ frames := 0, cells := 0, slots := 0, locals := 0 } : Room) s m #[(.int p1), (.int p2), (.ref a3)] below meth c s₁ [] 0 0 := Stand.of_body Bd
  have e0 : s₁.heap = h0 := by rw [← hh, Bd.state]; rfl
  have N0 := Fr.nil n0
  show Goes p e below (Rp Z p1 p2 a3 h0 n0 s) (s₁.setTop (entryFrame m #[(.int p1), (.int p2), (.ref a3)] 3))
  refine Goes.step (S' := s₁.setTop (mkF m 0 #[.val (.int p1), .val (.int p2), .val (.ref a3)] [])) (fun t k => castTop (ef_p m p1 p2 a3) k) ?_
  refine Goes.step (S' := s₁.setTop (mkF m 1 #[.val (.int p1), .val (.int p2), .val (.ref a3)] [(.int p1)])) (fun t k => XS.iloadN X0.here hx rfl (hb hby dp_0) rfl k) ?_
  refine Goes.step (S' := s₁.setTop (mkF m 4 #[.val (.int p1), .val (.int p2), .val (.ref a3)] [])) (fun t k => XS.ifNo X0.here hx rfl (hb hby dp_1) rfl ((if0 _ _).trans (flt c1).1) k) ?_
  refine Goes.step (S' := s₁.setTop (mkF m 5 #[.val (.int p1), .val (.int p2), .val (.ref a3)] [(.int p1)])) (fun t k => XS.iloadN X0.here hx rfl (hb hby dp_4) rfl k) ?_
  refine Goes.step (S' := s₁.setTop (mkF m 6 #[.val (.int p1), .val (.int p2), .val (.ref a3)] [(.int p2), (.int p1)])) (fun t k => XS.iloadN X0.here hx rfl (hb hby dp_5) rfl k) ?_
  refine Goes.step (S' := s₁.setTop (mkF m 16 #[.val (.int p1), .val (.int p2), .val (.ref a3)] [])) (fun t k => XS.icmpYes X0.here hx rfl (pc0 := 6) (pc' := 16) rfl (hb hby dp_6) rfl (tlt c2).1 (by decide) (by decide) k) ?_
  refine Goes.step (S' := s₁.setTop (mkF m 17 #[.val (.int p1), .val (.int p2), .val (.ref a3)] [(.int p1)])) (fun t k => XS.iloadN X0.here hx rfl (hb hby dp_16) rfl k) ?_
  obtain ⟨fs, hr, hrun, hended, hW, hsame⟩ := X0.leave (v := some (.int p1)) (fun h => by rw [Bd.returns] at h; cases h)
  exact ⟨_, _, retI X0 hx Bd.returns (hb hby dp_17) hr, hrun, hended, _, _, rfl, ⟨rfl, N0, e0⟩, ⟨_, rfl⟩, hW, hsame.mono (by decide) (by decide)⟩
theorem ef_rmpn (m : MethodId) (y0 : Int32) (y1 : Int32) : entryFrame m #[(.int y0), (.int y1), .null] 3 = mkF m 0 #[.val (.int y0), .val (.int y1), .val .null] [] := by first | (simp [entryFrame, mkF, argsToLocals, Value.category]; done) | rfl
def Qpn (Z : State) (p1 : Int32) (p2 : Int32) (h0 : Heap) (n0 : Nat) (v : Option Value) (h : Heap) (L : List Loc) : Prop := v = some (.int p1) ∧ Fr n0 L ∧ h = h0
def Rpn (Z : State) (p1 : Int32) (p2 : Int32) (h0 : Heap) (n0 : Nat) (U : State) (U' : State) (o : Outcome) : Prop := ∃ v L, o = .returned v ∧ Qpn Z p1 p2 h0 n0 v U'.heap L ∧ FrameEnd U o U' L ({ frames := 0, cells := 0, slots := 0, locals := 0 } : Room).cells ({ frames := 0, cells := 0, slots := 0, locals := 0 } : Room).slots
set_option maxRecDepth 65536 in
set_option maxHeartbeats 40000000 in
theorem rmpn (l : Launch) (Z : State) (a0 : Array Value) (hw : ∀ d ∈ tables_1, d.before a0 Z = true) (ws : List Jvm.Cond) (p1 : Int32) (p2 : Int32) (h0 : Heap) (n0 : Nat) (Z0 : n0 ≤ h0.size) (c1 : ¬ p1 < (0 : Int32)) (c2 : p1 < p2) :
    MetFree l (⟨"jdk/internal/util/Preconditions", "checkIndex", "(IILjava/util/function/BiFunction;)I"⟩ : MethodName) (head1 (Jvm.Cond.code (⟨"jdk/internal/util/Preconditions", "checkIndex", "(IILjava/util/function/BiFunction;)I"⟩ : MethodName) jdk_41_method_11_code 3 (some .int) :: ws) ({ frames := 0, cells := 0, slots := 0, locals := 0 } : Room)) (fun a U => a = #[(.int p1), (.int p2), .null] ∧ Z.Warmed39 U.vm ∧ U.heap = h0) (fun _ _ _ _ _ => True) (fun _ U o U' => ∃ v L, o = .returned v ∧ Qpn Z p1 p2 h0 n0 v U'.heap L ∧ FrameEnd U o U' L ({ frames := 0, cells := 0, slots := 0, locals := 0 } : Room).cells ({ frames := 0, cells := 0, slots := 0, locals := 0 } : Room).slots) := by
  refine MetFree.of_bodySF (plainFor_of_name pn_p) hisR ?_
  intro p e s m args below meth c s₁ Bd hml0 hP hK
  obtain ⟨rfl, hZ, hh⟩ := hP
  have hx := Bd.exec
  have hby := Bd.bytes
  have hml : c.maxLocals = 3 := hml0
  have hown : s.vm.findClass "jdk/internal/util/Preconditions" = some m.cls := findClass_of_methodNamed Bd.named
  have hnm := (name_of_methodNamed Bd.named Bd.method).1
  have X0 : Stand p l e ({ frames := 0, cells := 0, slots := 0, locals := 0 } : Room) s m #[(.int p1), (.int p2), .null] below meth c s₁ [] 0 0 := Stand.of_body Bd
  have e0 : s₁.heap = h0 := by rw [← hh, Bd.state]; rfl
  have N0 := Fr.nil n0
  show Goes p e below (Rpn Z p1 p2 h0 n0 s) (s₁.setTop (entryFrame m #[(.int p1), (.int p2), .null] 3))
  refine Goes.step (S' := s₁.setTop (mkF m 0 #[.val (.int p1), .val (.int p2), .val .null] [])) (fun t k => castTop (ef_rmpn m p1 p2) k) ?_
  refine Goes.step (S' := s₁.setTop (mkF m 1 #[.val (.int p1), .val (.int p2), .val .null] [(.int p1)])) (fun t k => XS.iloadN X0.here hx rfl (hb hby dp_0) rfl k) ?_
  refine Goes.step (S' := s₁.setTop (mkF m 4 #[.val (.int p1), .val (.int p2), .val .null] [])) (fun t k => XS.ifNo X0.here hx rfl (hb hby dp_1) rfl ((if0 _ _).trans (flt c1).1) k) ?_
  refine Goes.step (S' := s₁.setTop (mkF m 5 #[.val (.int p1), .val (.int p2), .val .null] [(.int p1)])) (fun t k => XS.iloadN X0.here hx rfl (hb hby dp_4) rfl k) ?_
  refine Goes.step (S' := s₁.setTop (mkF m 6 #[.val (.int p1), .val (.int p2), .val .null] [(.int p2), (.int p1)])) (fun t k => XS.iloadN X0.here hx rfl (hb hby dp_5) rfl k) ?_
  refine Goes.step (S' := s₁.setTop (mkF m 16 #[.val (.int p1), .val (.int p2), .val .null] [])) (fun t k => XS.icmpYes X0.here hx rfl (pc0 := 6) (pc' := 16) rfl (hb hby dp_6) rfl (tlt c2).1 (by decide) (by decide) k) ?_
  refine Goes.step (S' := s₁.setTop (mkF m 17 #[.val (.int p1), .val (.int p2), .val .null] [(.int p1)])) (fun t k => XS.iloadN X0.here hx rfl (hb hby dp_16) rfl k) ?_
  obtain ⟨fs, hr, hrun, hended, hW, hsame⟩ := X0.leave (v := some (.int p1)) (fun h => by rw [Bd.returns] at h; cases h)
  exact ⟨_, _, retI X0 hx Bd.returns (hb hby dp_17) hr, hrun, hended, _, _, rfl, ⟨rfl, N0, e0⟩, ⟨_, rfl⟩, hW, hsame.mono (by decide) (by decide)⟩
theorem dci_0 : decode jdk_42_method_155_code 0 = .ok (.iload_n 0, 1) := by decide +kernel
theorem dci_1 : decode jdk_42_method_155_code 1 = .ok (.iload_n 1, 1) := by decide +kernel
theorem dci_2 : decode jdk_42_method_155_code 2 = .ok (.getstatic 1053, 3) := by decide +kernel
theorem dci_5 : decode jdk_42_method_155_code 5 = .ok (.invokestatic 1059, 3) := by decide +kernel
theorem dci_8 : decode jdk_42_method_155_code 8 = .ok (.pop, 1) := by decide +kernel
theorem dci_9 : decode jdk_42_method_155_code 9 = .ok (.return_, 1) := by decide +kernel
theorem pn_ci : plainName "java/lang/String" = true := by first | (simp [plainName, overriddenIn]; done) | decide +kernel
theorem pd_ci : parseMethodDescriptor "(II)V" = some ⟨[.int, .int], none⟩ := by decide +kernel
theorem ef_ci (m : MethodId) (y0 : Int32) (y1 : Int32) : entryFrame m #[(.int y0), (.int y1)] 2 = mkF m 0 #[.val (.int y0), .val (.int y1)] [] := by first | (simp [entryFrame, mkF, argsToLocals, Value.category]; done) | rfl
def Qci (Z : State) (p1 : Int32) (p2 : Int32) (vF : Value) (h0 : Heap) (n0 : Nat) (v : Option Value) (h : Heap) (L : List Loc) : Prop := v = none ∧ Fr n0 L ∧ h = h0
def Rci (Z : State) (p1 : Int32) (p2 : Int32) (vF : Value) (h0 : Heap) (n0 : Nat) (U : State) (U' : State) (o : Outcome) : Prop := ∃ v L, o = .returned v ∧ Qci Z p1 p2 vF h0 n0 v U'.heap L ∧ FrameEnd U o U' L ({ frames := 1, cells := 0, slots := 0, locals := 14 } : Room).cells ({ frames := 1, cells := 0, slots := 0, locals := 14 } : Room).slots
set_option maxRecDepth 65536 in
set_option maxHeartbeats 40000000 in
theorem rmci (l : Launch) (Z : State) (a0 : Array Value) (hw : ∀ d ∈ tables_1, d.before a0 Z = true) (ws : List Jvm.Cond) (p1 : Int32) (p2 : Int32) (vF : Value) (h0 : Heap) (n0 : Nat) (Z0 : n0 ≤ h0.size) (SF : Sta Z h0 "jdk/internal/util/Preconditions" "SIOOBE_FORMATTER" "Ljava/util/function/BiFunction;" vF) (hF : vF.isRef = true) (c1 : ¬ p1 < (0 : Int32)) (c2 : p1 < p2) :
    MetFree l (⟨"java/lang/String", "checkIndex", "(II)V"⟩ : MethodName) (head1 (Jvm.Cond.code (⟨"java/lang/String", "checkIndex", "(II)V"⟩ : MethodName) jdk_42_method_155_code 2 none :: ws) ({ frames := 1, cells := 0, slots := 0, locals := 14 } : Room)) (fun a U => a = #[(.int p1), (.int p2)] ∧ Z.Warmed39 U.vm ∧ U.heap = h0) (fun _ _ _ _ _ => True) (fun _ U o U' => ∃ v L, o = .returned v ∧ Qci Z p1 p2 vF h0 n0 v U'.heap L ∧ FrameEnd U o U' L ({ frames := 1, cells := 0, slots := 0, locals := 14 } : Room).cells ({ frames := 1, cells := 0, slots := 0, locals := 14 } : Room).slots) := by
  refine MetFree.of_bodySF (plainFor_of_name pn_ci) hisR ?_
  intro p e s m args below meth c s₁ Bd hml0 hP hK
  obtain ⟨rfl, hZ, hh⟩ := hP
  have hx := Bd.exec
  have hby := Bd.bytes
  have hml : c.maxLocals = 2 := hml0
  have hown : s.vm.findClass "java/lang/String" = some m.cls := findClass_of_methodNamed Bd.named
  have hnm := (name_of_methodNamed Bd.named Bd.method).1
  have X0 : Stand p l e ({ frames := 1, cells := 0, slots := 0, locals := 14 } : Room) s m #[(.int p1), (.int p2)] below meth c s₁ [] 0 0 := Stand.of_body Bd
  have e0 : s₁.heap = h0 := by rw [← hh, Bd.state]; rfl
  have N0 := Fr.nil n0
  show Goes p e below (Rci Z p1 p2 vF h0 n0 s) (s₁.setTop (entryFrame m #[(.int p1), (.int p2)] 2))
  refine Goes.step (S' := s₁.setTop (mkF m 0 #[.val (.int p1), .val (.int p2)] [])) (fun t k => castTop (ef_ci m p1 p2) k) ?_
  rcases ref_cases hF with rfl | ⟨a3, rfl⟩
  · refine Goes.step (S' := s₁.setTop (mkF m 1 #[.val (.int p1), .val (.int p2)] [(.int p1)])) (fun t k => XS.iloadN X0.here hx rfl (hb hby dci_0) rfl k) ?_
    refine Goes.step (S' := s₁.setTop (mkF m 2 #[.val (.int p1), .val (.int p2)] [(.int p2), (.int p1)])) (fun t k => XS.iloadN X0.here hx rfl (hb hby dci_1) rfl k) ?_
    obtain ⟨T1, X1, e1, st1⟩ := getS X0 hx hZ (host := "") hown (hw _ (List.mem_of_getElem? (i := 57) rfl)) Via.refl e0 SF (g := (mkF m 2 #[.val (.int p1), .val (.int p2)] [(.int p2), (.int p1)])) rfl (hb hby dci_2)
    refine Goes.step (S' := T1.setTop (mkF m 5 #[.val (.int p1), .val (.int p2)] [.null, (.int p2), (.int p1)])) (fun t k => st1 t k) ?_
    obtain ⟨_, _, ⟨T2, L2, k2, n2⟩, -, X2, ⟨Lc2, hQ2, l2, y2, z2⟩, st2⟩ := Jvm.LawKit.callS X1 hx (y := (⟨"jdk/internal/util/Preconditions", "checkIndex", "(IILjava/util/function/BiFunction;)I"⟩ : MethodName)) hown (mvT hZ (hw _ (List.mem_of_getElem? (i := 59) rfl))) (mvT hZ (hw _ (List.mem_of_getElem? (i := 60) rfl))) (mvT hZ (hw _ (List.mem_of_getElem? (i := 58) rfl))) (mvT hZ (hw _ (List.mem_of_getElem? (i := 61) rfl))) (by decide) (backOf (W := 0) (rmpn l Z a0 hw [] p1 p2 h0 n0 Z0 c1 c2) hZ (hw _ (List.mem_of_getElem? (i := 61) rfl)) (hw _ (List.mem_of_getElem? (i := 58) rfl)) (by decide) (by decide)) (g := (mkF m 5 #[.val (.int p1), .val (.int p2)] [.null, (.int p2), (.int p1)])) rfl (by rw [hml]; rfl) (argsL := [(.int p1), (.int p2), .null]) (rest := []) (lenOf pd_p rfl) rfl (by show 2 * 0 + _ ≤ _; exact Nat.le_of_eq rfl) (hb hby dci_5) (fun _ _ => ⟨rfl, e1, (by decide : 0 + 0 ≤ _), (by decide : 0 + 0 ≤ _)⟩)
    dsimp only [Pt.U, Pt.locs, Pt.cells, Pt.slots] at X2 l2 y2 z2 st2 hQ2
    subst l2 y2 z2
    obtain ⟨rfl, N2q, e2⟩ := hQ2
    have N2 := Fr.app N0 N2q
    refine Goes.step (S' := T2.setTop (mkF m 8 #[.val (.int p1), .val (.int p2)] [(.int p1)])) (fun t k => st2 t k) ?_
    refine Goes.step (S' := T2.setTop (mkF m 9 #[.val (.int p1), .val (.int p2)] [])) (fun t k => XS.pop X2.here hx rfl (hb hby dci_8) rfl rfl k) ?_
    obtain ⟨fs, hr, hrun, hended, hW, hsame⟩ := X2.leave (v := none) (fun _ => rfl)
    exact ⟨_, _, X2.returnOut hx Bd.returns (hb hby dci_9) hr, hrun, hended, _, _, rfl, ⟨rfl, N2, e2⟩, ⟨_, rfl⟩, hW, hsame.mono (by decide) (by decide)⟩
  · refine Goes.step (S' := s₁.setTop (mkF m 1 #[.val (.int p1), .val (.int p2)] [(.int p1)])) (fun t k => XS.iloadN X0.here hx rfl (hb hby dci_0) rfl k) ?_
    refine Goes.step (S' := s₁.setTop (mkF m 2 #[.val (.int p1), .val (.int p2)] [(.int p2), (.int p1)])) (fun t k => XS.iloadN X0.here hx rfl (hb hby dci_1) rfl k) ?_
    obtain ⟨T3, X3, e3, st3⟩ := getS X0 hx hZ (host := "") hown (hw _ (List.mem_of_getElem? (i := 57) rfl)) Via.refl e0 SF (g := (mkF m 2 #[.val (.int p1), .val (.int p2)] [(.int p2), (.int p1)])) rfl (hb hby dci_2)
    refine Goes.step (S' := T3.setTop (mkF m 5 #[.val (.int p1), .val (.int p2)] [(.ref a3), (.int p2), (.int p1)])) (fun t k => st3 t k) ?_
    obtain ⟨_, _, ⟨T4, L4, k4, n4⟩, -, X4, ⟨Lc4, hQ4, l4, y4, z4⟩, st4⟩ := Jvm.LawKit.callS X3 hx (y := (⟨"jdk/internal/util/Preconditions", "checkIndex", "(IILjava/util/function/BiFunction;)I"⟩ : MethodName)) hown (mvT hZ (hw _ (List.mem_of_getElem? (i := 59) rfl))) (mvT hZ (hw _ (List.mem_of_getElem? (i := 60) rfl))) (mvT hZ (hw _ (List.mem_of_getElem? (i := 58) rfl))) (mvT hZ (hw _ (List.mem_of_getElem? (i := 61) rfl))) (by decide) (backOf (W := 0) (rmp l Z a0 hw [] p1 p2 a3 h0 n0 Z0 c1 c2) hZ (hw _ (List.mem_of_getElem? (i := 61) rfl)) (hw _ (List.mem_of_getElem? (i := 58) rfl)) (by decide) (by decide)) (g := (mkF m 5 #[.val (.int p1), .val (.int p2)] [(.ref a3), (.int p2), (.int p1)])) rfl (by rw [hml]; rfl) (argsL := [(.int p1), (.int p2), (.ref a3)]) (rest := []) (lenOf pd_p rfl) rfl (by show 2 * 0 + _ ≤ _; exact Nat.le_of_eq rfl) (hb hby dci_5) (fun _ _ => ⟨rfl, e3, (by decide : 0 + 0 ≤ _), (by decide : 0 + 0 ≤ _)⟩)
    dsimp only [Pt.U, Pt.locs, Pt.cells, Pt.slots] at X4 l4 y4 z4 st4 hQ4
    subst l4 y4 z4
    obtain ⟨rfl, N4q, e4⟩ := hQ4
    have N4 := Fr.app N0 N4q
    refine Goes.step (S' := T4.setTop (mkF m 8 #[.val (.int p1), .val (.int p2)] [(.int p1)])) (fun t k => st4 t k) ?_
    refine Goes.step (S' := T4.setTop (mkF m 9 #[.val (.int p1), .val (.int p2)] [])) (fun t k => XS.pop X4.here hx rfl (hb hby dci_8) rfl rfl k) ?_
    obtain ⟨fs, hr, hrun, hended, hW, hsame⟩ := X4.leave (v := none) (fun _ => rfl)
    exact ⟨_, _, X4.returnOut hx Bd.returns (hb hby dci_9) hr, hrun, hended, _, _, rfl, ⟨rfl, N4, e4⟩, ⟨_, rfl⟩, hW, hsame.mono (by decide) (by decide)⟩
theorem dla_0 : decode jdk_43_method_2_code 0 = .ok (.iload_n 1, 1) := by decide +kernel
theorem dla_1 : decode jdk_43_method_2_code 1 = .ok (.aload_n 0, 1) := by decide +kernel
theorem dla_2 : decode jdk_43_method_2_code 2 = .ok (.arraylength, 1) := by decide +kernel
theorem dla_3 : decode jdk_43_method_2_code 3 = .ok (.invokestatic 9, 3) := by decide +kernel
theorem dla_6 : decode jdk_43_method_2_code 6 = .ok (.aload_n 0, 1) := by decide +kernel
theorem dla_7 : decode jdk_43_method_2_code 7 = .ok (.iload_n 1, 1) := by decide +kernel
theorem dla_8 : decode jdk_43_method_2_code 8 = .ok (.baload, 1) := by decide +kernel
theorem dla_9 : decode jdk_43_method_2_code 9 = .ok (.sipush 255, 3) := by decide +kernel
theorem dla_12 : decode jdk_43_method_2_code 12 = .ok (.iand, 1) := by decide +kernel
theorem dla_13 : decode jdk_43_method_2_code 13 = .ok (.i2c, 1) := by decide +kernel
theorem dla_14 : decode jdk_43_method_2_code 14 = .ok (.ireturn, 1) := by decide +kernel
theorem pn_la : plainName "java/lang/StringLatin1" = true := by first | (simp [plainName, overriddenIn]; done) | decide +kernel
theorem pd_la : parseMethodDescriptor "([BI)C" = some ⟨[(.array .byte), .int], some .char⟩ := by decide +kernel
theorem ef_la (m : MethodId) (y0 : Addr) (y1 : Int32) : entryFrame m #[(.ref y0), (.int y1)] 2 = mkF m 0 #[.val (.ref y0), .val (.int y1)] [] := by first | (simp [entryFrame, mkF, argsToLocals, Value.category]; done) | rfl
def Qla (Z : State) (a3 : Addr) (p2 : Int32) (N : Int32) (b' : Int32) (cl : Cell) (vF : Value) (h0 : Heap) (n0 : Nat) (v : Option Value) (h : Heap) (L : List Loc) : Prop := v = some (.int (b' &&& (255 : Int32))) ∧ Fr n0 L ∧ h = h0
def Rla (Z : State) (a3 : Addr) (p2 : Int32) (N : Int32) (b' : Int32) (cl : Cell) (vF : Value) (h0 : Heap) (n0 : Nat) (U : State) (U' : State) (o : Outcome) : Prop := ∃ v L, o = .returned v ∧ Qla Z a3 p2 N b' cl vF h0 n0 v U'.heap L ∧ FrameEnd U o U' L ({ frames := 2, cells := 0, slots := 0, locals := 27 } : Room).cells ({ frames := 2, cells := 0, slots := 0, locals := 27 } : Room).slots
set_option maxRecDepth 65536 in
set_option maxHeartbeats 40000000 in
theorem rmla (l : Launch) (Z : State) (a0 : Array Value) (hw : ∀ d ∈ tables_1, d.before a0 Z = true) (ws : List Jvm.Cond) (a3 : Addr) (p2 : Int32) (N : Int32) (b' : Int32) (cl : Cell) (vF : Value) (h0 : Heap) (n0 : Nat) (Z0 : n0 ≤ h0.size) (SF : Sta Z h0 "jdk/internal/util/Preconditions" "SIOOBE_FORMATTER" "Ljava/util/function/BiFunction;" vF) (hF : vF.isRef = true) (Ar : Arr Z h0 a3 cl .byte) (Sz : cl.slots.size = N.toNatClampNeg) (hN : ¬ N < (0 : Int32)) (c1 : ¬ p2 < (0 : Int32)) (c2 : p2 < N) (hb' : cl.slots[p2.toNatClampNeg]? = some (.int b')) :
    MetFree l (⟨"java/lang/StringLatin1", "charAt", "([BI)C"⟩ : MethodName) (head1 (Jvm.Cond.code (⟨"java/lang/StringLatin1", "charAt", "([BI)C"⟩ : MethodName) jdk_43_method_2_code 2 (some .char) :: ws) ({ frames := 2, cells := 0, slots := 0, locals := 27 } : Room)) (fun a U => a = #[(.ref a3), (.int p2)] ∧ Z.Warmed39 U.vm ∧ U.heap = h0) (fun _ _ _ _ _ => True) (fun _ U o U' => ∃ v L, o = .returned v ∧ Qla Z a3 p2 N b' cl vF h0 n0 v U'.heap L ∧ FrameEnd U o U' L ({ frames := 2, cells := 0, slots := 0, locals := 27 } : Room).cells ({ frames := 2, cells := 0, slots := 0, locals := 27 } : Room).slots) := by
  refine MetFree.of_bodySF (plainFor_of_name pn_la) hisR ?_
  intro p e s m args below meth c s₁ Bd hml0 hP hK
  obtain ⟨rfl, hZ, hh⟩ := hP
  have hx := Bd.exec
  have hby := Bd.bytes
  have hml : c.maxLocals = 2 := hml0
  have hown : s.vm.findClass "java/lang/StringLatin1" = some m.cls := findClass_of_methodNamed Bd.named
  have hnm := (name_of_methodNamed Bd.named Bd.method).1
  have X0 : Stand p l e ({ frames := 2, cells := 0, slots := 0, locals := 27 } : Room) s m #[(.ref a3), (.int p2)] below meth c s₁ [] 0 0 := Stand.of_body Bd
  have e0 : s₁.heap = h0 := by rw [← hh, Bd.state]; rfl
  have N0 := Fr.nil n0
  show Goes p e below (Rla Z a3 p2 N b' cl vF h0 n0 s) (s₁.setTop (entryFrame m #[(.ref a3), (.int p2)] 2))
  refine Goes.step (S' := s₁.setTop (mkF m 0 #[.val (.ref a3), .val (.int p2)] [])) (fun t k => castTop (ef_la m a3 p2) k) ?_
  refine Goes.step (S' := s₁.setTop (mkF m 1 #[.val (.ref a3), .val (.int p2)] [(.int p2)])) (fun t k => XS.iloadN X0.here hx rfl (hb hby dla_0) rfl k) ?_
  refine Goes.step (S' := s₁.setTop (mkF m 2 #[.val (.ref a3), .val (.int p2)] [(.ref a3), (.int p2)])) (fun t k => XS.aloadN X0.here hx rfl (hb hby dla_1) rfl rfl k) ?_
  refine Goes.step (S' := s₁.setTop (mkF m 3 #[.val (.ref a3), .val (.int p2)] [(.int N), (.int p2)])) (fun t k => X0.arraylength hx (by rw [e0]; exact Ar.1) (State.isArrayOf_alike hZ.alike Ar.2.1) (g := (mkF m 2 #[.val (.ref a3), .val (.int p2)] [(.ref a3), (.int p2)])) rfl rfl (hb hby dla_2) _ (by rw [len_of Sz hN]; exact k)) ?_
  obtain ⟨_, _, ⟨T5, L5, k5, n5⟩, -, X5, ⟨Lc5, hQ5, l5, y5, z5⟩, st5⟩ := Jvm.LawKit.callS X0 hx (y := (⟨"java/lang/String", "checkIndex", "(II)V"⟩ : MethodName)) hown (mvT hZ (hw _ (List.mem_of_getElem? (i := 54) rfl))) (mvT hZ (hw _ (List.mem_of_getElem? (i := 55) rfl))) (mvT hZ (hw _ (List.mem_of_getElem? (i := 28) rfl))) (mvT hZ (hw _ (List.mem_of_getElem? (i := 56) rfl))) (by decide) (backOf (W := 0) (rmci l Z a0 hw [] p2 N vF h0 n0 Z0 SF hF c1 c2) hZ (hw _ (List.mem_of_getElem? (i := 56) rfl)) (hw _ (List.mem_of_getElem? (i := 28) rfl)) (by decide) (by decide)) (g := (mkF m 3 #[.val (.ref a3), .val (.int p2)] [(.int N), (.int p2)])) rfl (by rw [hml]; rfl) (argsL := [(.int p2), (.int N)]) (rest := []) (lenOf pd_ci rfl) rfl (by show 2 * 0 + _ ≤ _; exact Nat.le_of_eq rfl) (hb hby dla_3) (fun _ _ => ⟨rfl, e0, (by decide : 0 + 0 ≤ _), (by decide : 0 + 0 ≤ _)⟩)
  dsimp only [Pt.U, Pt.locs, Pt.cells, Pt.slots] at X5 l5 y5 z5 st5 hQ5
  subst l5 y5 z5
  obtain ⟨rfl, N5q, e5⟩ := hQ5
  have N5 := Fr.app N0 N5q
  refine Goes.step (S' := T5.setTop (mkF m 6 #[.val (.ref a3), .val (.int p2)] [])) (fun t k => st5 t k) ?_
  refine Goes.step (S' := T5.setTop (mkF m 7 #[.val (.ref a3), .val (.int p2)] [(.ref a3)])) (fun t k => XS.aloadN X5.here hx rfl (hb hby dla_6) rfl rfl k) ?_
  refine Goes.step (S' := T5.setTop (mkF m 8 #[.val (.ref a3), .val (.int p2)] [(.int p2), (.ref a3)])) (fun t k => XS.iloadN X5.here hx rfl (hb hby dla_7) rfl k) ?_
  refine Goes.step (S' := T5.setTop (mkF m 9 #[.val (.ref a3), .val (.int p2)] [(.int b')])) (fun t k => X5.baloadBytes hx (j := p2) (v := (.int b')) (by rw [e5]; exact Ar.1) (State.isArrayOf_alike hZ.alike Ar.2.1) Ar.2.2 (inb_of Sz ⟨c1, c2⟩) hb' (g := (mkF m 8 #[.val (.ref a3), .val (.int p2)] [(.int p2), (.ref a3)])) rfl rfl (hb hby dla_8) _ k) ?_
  refine Goes.step (S' := T5.setTop (mkF m 12 #[.val (.ref a3), .val (.int p2)] [(.int (255 : Int32)), (.int b')])) (fun t k => XS.sipush X5.here hx rfl (hb hby dla_9) k) ?_
  refine Goes.step (S' := T5.setTop (mkF m 13 #[.val (.ref a3), .val (.int p2)] [(.int (b' &&& (255 : Int32)))])) (fun t k => XS.iand X5.here hx rfl (hb hby dla_12) rfl k) ?_
  refine Goes.step (S' := T5.setTop (mkF m 14 #[.val (.ref a3), .val (.int p2)] [(.int (b' &&& (255 : Int32)))])) (fun t k => XS.i2c X5.here hx rfl (hb hby dla_13) rfl (by rw [i2c_mask]; exact k)) ?_
  obtain ⟨fs, hr, hrun, hended, hW, hsame⟩ := X5.leave (v := some (.int (nar .char (b' &&& (255 : Int32))))) (fun h => by rw [Bd.returns] at h; cases h)
  exact ⟨_, _, retN X5 hx (t := .char) Bd.returns (by simp) (hb hby dla_14) hr, hrun, hended, _, _, rfl, ⟨congrArg (fun z => some (Value.int z)) (i2c_mask b'), N5, e5⟩, ⟨_, rfl⟩, hW, hsame.mono (by decide) (by decide)⟩
theorem dil_0 : decode jdk_42_method_154_code 0 = .ok (.getstatic 38, 3) := by decide +kernel
theorem dil_3 : decode jdk_42_method_154_code 3 = .ok (.ifCond .eq 14, 3) := by decide +kernel
theorem dil_6 : decode jdk_42_method_154_code 6 = .ok (.aload_n 0, 1) := by decide +kernel
theorem dil_7 : decode jdk_42_method_154_code 7 = .ok (.getfield 15, 3) := by decide +kernel
theorem dil_10 : decode jdk_42_method_154_code 10 = .ok (.ifCond .ne 7, 3) := by decide +kernel
theorem dil_13 : decode jdk_42_method_154_code 13 = .ok (.iconst 1, 1) := by decide +kernel
theorem dil_14 : decode jdk_42_method_154_code 14 = .ok (.goto 4, 3) := by decide +kernel
theorem dil_17 : decode jdk_42_method_154_code 17 = .ok (.iconst 0, 1) := by decide +kernel
theorem dil_18 : decode jdk_42_method_154_code 18 = .ok (.ireturn, 1) := by decide +kernel
theorem pn_il : plainName "java/lang/String" = true := by first | (simp [plainName, overriddenIn]; done) | decide +kernel
theorem pd_il : parseMethodDescriptor "()Z" = some ⟨[], some .boolean⟩ := by decide +kernel
theorem ef_il (m : MethodId) (y0 : Addr) : entryFrame m #[(.ref y0)] 1 = mkF m 0 #[.val (.ref y0)] [] := by first | (simp [entryFrame, mkF, argsToLocals, Value.category]; done) | rfl
def Qil (Z : State) (a1 : Addr) (cs : Int32) (h0 : Heap) (n0 : Nat) (v : Option Value) (h : Heap) (L : List Loc) : Prop := v = some (.int 1) ∧ Fr n0 L ∧ h = h0
def Ril (Z : State) (a1 : Addr) (cs : Int32) (h0 : Heap) (n0 : Nat) (U : State) (U' : State) (o : Outcome) : Prop := ∃ v L, o = .returned v ∧ Qil Z a1 cs h0 n0 v U'.heap L ∧ FrameEnd U o U' L ({ frames := 0, cells := 0, slots := 0, locals := 0 } : Room).cells ({ frames := 0, cells := 0, slots := 0, locals := 0 } : Room).slots
set_option maxRecDepth 65536 in
set_option maxHeartbeats 40000000 in
theorem rmil (l : Launch) (Z : State) (a0 : Array Value) (hw : ∀ d ∈ tables_1, d.before a0 Z = true) (ws : List Jvm.Cond) (a1 : Addr) (cs : Int32) (h0 : Heap) (n0 : Nat) (Z0 : n0 ≤ h0.size) (SC : Sta Z h0 "java/lang/String" "COMPACT_STRINGS" "Z" (.int cs)) (hcs : ¬ cs = (0 : Int32)) (Fc : (Fld Z h0 a1 "java/lang/String" "coder" "B" (.int (0 : Int32)))) :
    MetFree l (⟨"java/lang/String", "isLatin1", "()Z"⟩ : MethodName) (head1 (Jvm.Cond.code (⟨"java/lang/String", "isLatin1", "()Z"⟩ : MethodName) jdk_42_method_154_code 1 (some .boolean) :: ws) ({ frames := 0, cells := 0, slots := 0, locals := 0 } : Room)) (fun a U => a = #[(.ref a1)] ∧ Z.Warmed39 U.vm ∧ U.heap = h0) (fun _ _ _ _ _ => True) (fun _ U o U' => ∃ v L, o = .returned v ∧ Qil Z a1 cs h0 n0 v U'.heap L ∧ FrameEnd U o U' L ({ frames := 0, cells := 0, slots := 0, locals := 0 } : Room).cells ({ frames := 0, cells := 0, slots := 0, locals := 0 } : Room).slots) := by
  refine MetFree.of_bodySF (plainFor_of_name pn_il) hisR ?_
  intro p e s m args below meth c s₁ Bd hml0 hP hK
  obtain ⟨rfl, hZ, hh⟩ := hP
  have hx := Bd.exec
  have hby := Bd.bytes
  have hml : c.maxLocals = 1 := hml0
  have hown : s.vm.findClass "java/lang/String" = some m.cls := findClass_of_methodNamed Bd.named
  have hnm := (name_of_methodNamed Bd.named Bd.method).1
  have X0 : Stand p l e ({ frames := 0, cells := 0, slots := 0, locals := 0 } : Room) s m #[(.ref a1)] below meth c s₁ [] 0 0 := Stand.of_body Bd
  have e0 : s₁.heap = h0 := by rw [← hh, Bd.state]; rfl
  have N0 := Fr.nil n0
  show Goes p e below (Ril Z a1 cs h0 n0 s) (s₁.setTop (entryFrame m #[(.ref a1)] 1))
  refine Goes.step (S' := s₁.setTop (mkF m 0 #[.val (.ref a1)] [])) (fun t k => castTop (ef_il m a1) k) ?_
  obtain ⟨T6, X6, e6, st6⟩ := getS X0 hx hZ (host := "") hown (hw _ (List.mem_of_getElem? (i := 37) rfl)) Via.refl e0 SC (g := (mkF m 0 #[.val (.ref a1)] [])) rfl (hb hby dil_0)
  refine Goes.step (S' := T6.setTop (mkF m 3 #[.val (.ref a1)] [(.int cs)])) (fun t k => st6 t k) ?_
  refine Goes.step (S' := T6.setTop (mkF m 6 #[.val (.ref a1)] [])) (fun t k => XS.ifNo X6.here hx rfl (hb hby dil_3) rfl ((if0 _ _).trans (feq hcs).1) k) ?_
  refine Goes.step (S' := T6.setTop (mkF m 7 #[.val (.ref a1)] [(.ref a1)])) (fun t k => XS.aloadN X6.here hx rfl (hb hby dil_6) rfl rfl k) ?_
  obtain ⟨T7, X7, e7, st7⟩ := getF X6 hx hZ hown (host := "") (Or.inl (hw _ (List.mem_of_getElem? (i := 38) rfl))) Via.refl e6 Fc (g := (mkF m 7 #[.val (.ref a1)] [(.ref a1)])) rfl rfl (hb hby dil_7)
  refine Goes.step (S' := T7.setTop (mkF m 10 #[.val (.ref a1)] [(.int (0 : Int32))])) (fun t k => st7 t k) ?_
  refine Goes.step (S' := T7.setTop (mkF m 13 #[.val (.ref a1)] [])) (fun t k => XS.ifNo X7.here hx rfl (hb hby dil_10) rfl ((if0 _ _).trans (teq rfl).2) k) ?_
  refine Goes.step (S' := T7.setTop (mkF m 14 #[.val (.ref a1)] [(.int (1 : Int32))])) (fun t k => XS.iconst X7.here hx rfl (hb hby dil_13) k) ?_
  refine Goes.step (S' := T7.setTop (mkF m 18 #[.val (.ref a1)] [(.int (1 : Int32))])) (fun t k => XS.goto X7.here hx rfl (pc0 := 14) (pc' := 18) rfl (hb hby dil_14) (by decide) (by decide) k) ?_
  obtain ⟨fs, hr, hrun, hended, hW, hsame⟩ := X7.leave (v := some (.int (1 : Int32))) (fun h => by rw [Bd.returns] at h; cases h)
  exact ⟨_, _, retN X7 hx (t := .boolean) Bd.returns (by simp) (hb hby dil_18) hr, hrun, hended, _, _, rfl, ⟨rfl, N0, e7⟩, ⟨_, rfl⟩, hW, hsame.mono (by decide) (by decide)⟩
theorem dca_0 : decode jdk_42_method_56_code 0 = .ok (.aload_n 0, 1) := by decide +kernel
theorem dca_1 : decode jdk_42_method_56_code 1 = .ok (.invokevirtual 492, 3) := by decide +kernel
theorem dca_4 : decode jdk_42_method_56_code 4 = .ok (.ifCond .eq 12, 3) := by decide +kernel
theorem dca_7 : decode jdk_42_method_56_code 7 = .ok (.aload_n 0, 1) := by decide +kernel
theorem dca_8 : decode jdk_42_method_56_code 8 = .ok (.getfield 9, 3) := by decide +kernel
theorem dca_11 : decode jdk_42_method_56_code 11 = .ok (.iload_n 1, 1) := by decide +kernel
theorem dca_12 : decode jdk_42_method_56_code 12 = .ok (.invokestatic 495, 3) := by decide +kernel
theorem dca_15 : decode jdk_42_method_56_code 15 = .ok (.ireturn, 1) := by decide +kernel
theorem pn_ca : plainName "java/lang/String" = true := by first | (simp [plainName, overriddenIn]; done) | decide +kernel
theorem pd_ca : parseMethodDescriptor "(I)C" = some ⟨[.int], some .char⟩ := by decide +kernel
theorem ef_ca (m : MethodId) (y0 : Addr) (y1 : Int32) : entryFrame m #[(.ref y0), (.int y1)] 2 = mkF m 0 #[.val (.ref y0), .val (.int y1)] [] := by first | (simp [entryFrame, mkF, argsToLocals, Value.category]; done) | rfl
def Qca (Z : State) (a1 : Addr) (p2 : Int32) (a3 : Addr) (N : Int32) (b' : Int32) (cl : Cell) (vF : Value) (cs : Int32) (h0 : Heap) (n0 : Nat) (v : Option Value) (h : Heap) (L : List Loc) : Prop := v = some (.int (b' &&& (255 : Int32))) ∧ Fr n0 L ∧ h = h0
def Rca (Z : State) (a1 : Addr) (p2 : Int32) (a3 : Addr) (N : Int32) (b' : Int32) (cl : Cell) (vF : Value) (cs : Int32) (h0 : Heap) (n0 : Nat) (U : State) (U' : State) (o : Outcome) : Prop := ∃ v L, o = .returned v ∧ Qca Z a1 p2 a3 N b' cl vF cs h0 n0 v U'.heap L ∧ FrameEnd U o U' L ({ frames := 3, cells := 0, slots := 0, locals := 40 } : Room).cells ({ frames := 3, cells := 0, slots := 0, locals := 40 } : Room).slots
set_option maxRecDepth 65536 in
set_option maxHeartbeats 40000000 in
theorem rmca (l : Launch) (Z : State) (a0 : Array Value) (hw : ∀ d ∈ tables_1, d.before a0 Z = true) (ws : List Jvm.Cond) (a1 : Addr) (p2 : Int32) (a3 : Addr) (N : Int32) (b' : Int32) (cl : Cell) (vF : Value) (cs : Int32) (h0 : Heap) (n0 : Nat) (Z0 : n0 ≤ h0.size) (SF : Sta Z h0 "jdk/internal/util/Preconditions" "SIOOBE_FORMATTER" "Ljava/util/function/BiFunction;" vF) (hF : vF.isRef = true) (SC : Sta Z h0 "java/lang/String" "COMPACT_STRINGS" "Z" (.int cs)) (hcs : ¬ cs = (0 : Int32)) (Ev : Exa Z h0 a1 "java/lang/String") (Fc : (Fld Z h0 a1 "java/lang/String" "coder" "B" (.int (0 : Int32)))) (Fv : (Fld Z h0 a1 "java/lang/String" "value" "[B" (.ref a3))) (Ar : Arr Z h0 a3 cl .byte) (Sz : cl.slots.size = N.toNatClampNeg) (hN : ¬ N < (0 : Int32)) (c1 : ¬ p2 < (0 : Int32)) (c2 : p2 < N) (hb' : cl.slots[p2.toNatClampNeg]? = some (.int b')) :
    MetFree l (⟨"java/lang/String", "charAt", "(I)C"⟩ : MethodName) (head1 (Jvm.Cond.code (⟨"java/lang/String", "charAt", "(I)C"⟩ : MethodName) jdk_42_method_56_code 2 (some .char) :: ws) ({ frames := 3, cells := 0, slots := 0, locals := 40 } : Room)) (fun a U => a = #[(.ref a1), (.int p2)] ∧ Z.Warmed39 U.vm ∧ U.heap = h0) (fun _ _ _ _ _ => True) (fun _ U o U' => ∃ v L, o = .returned v ∧ Qca Z a1 p2 a3 N b' cl vF cs h0 n0 v U'.heap L ∧ FrameEnd U o U' L ({ frames := 3, cells := 0, slots := 0, locals := 40 } : Room).cells ({ frames := 3, cells := 0, slots := 0, locals := 40 } : Room).slots) := by
  refine MetFree.of_bodySF (plainFor_of_name pn_ca) hisR ?_
  intro p e s m args below meth c s₁ Bd hml0 hP hK
  obtain ⟨rfl, hZ, hh⟩ := hP
  have hx := Bd.exec
  have hby := Bd.bytes
  have hml : c.maxLocals = 2 := hml0
  have hown : s.vm.findClass "java/lang/String" = some m.cls := findClass_of_methodNamed Bd.named
  have hnm := (name_of_methodNamed Bd.named Bd.method).1
  have X0 : Stand p l e ({ frames := 3, cells := 0, slots := 0, locals := 40 } : Room) s m #[(.ref a1), (.int p2)] below meth c s₁ [] 0 0 := Stand.of_body Bd
  have e0 : s₁.heap = h0 := by rw [← hh, Bd.state]; rfl
  have N0 := Fr.nil n0
  show Goes p e below (Rca Z a1 p2 a3 N b' cl vF cs h0 n0 s) (s₁.setTop (entryFrame m #[(.ref a1), (.int p2)] 2))
  refine Goes.step (S' := s₁.setTop (mkF m 0 #[.val (.ref a1), .val (.int p2)] [])) (fun t k => castTop (ef_ca m a1 p2) k) ?_
  refine Goes.step (S' := s₁.setTop (mkF m 1 #[.val (.ref a1), .val (.int p2)] [(.ref a1)])) (fun t k => XS.aloadN X0.here hx rfl (hb hby dca_0) rfl rfl k) ?_
  obtain ⟨cq8, kq8, q8a, q8b, q8c⟩ := isOf hZ e0 Ev
  obtain ⟨_, _, ⟨T8, L8, k8, n8⟩, -, X8, ⟨Lc8, hQ8, l8, y8, z8⟩, st8⟩ := X0.virtualBack hx (y := (⟨"java/lang/String", "isLatin1", "()Z"⟩ : MethodName)) (z := (⟨"java/lang/String", "isLatin1", "()Z"⟩ : MethodName)) hown (mvT hZ (hw _ (List.mem_of_getElem? (i := 45) rfl))) (mvT hZ (hw _ (List.mem_of_getElem? (i := 46) rfl))) (notFace_of_selects (args := #[]) (mvT hZ (hw _ (List.mem_of_getElem? (i := 48) rfl)))) (mvT hZ (hw _ (List.mem_of_getElem? (i := 48) rfl))) (mvT hZ (hw _ (List.mem_of_getElem? (i := 47) rfl))) (by decide) (backOf (W := 0) (rmil l Z a0 hw [] a1 cs h0 n0 Z0 SC hcs Fc) hZ (hw _ (List.mem_of_getElem? (i := 49) rfl)) (hw _ (List.mem_of_getElem? (i := 28) rfl)) (by decide) (by decide)) q8a q8c (g := (mkF m 1 #[.val (.ref a1), .val (.int p2)] [(.ref a1)])) rfl (by rw [hml]; rfl) (Steps.refl _) (argsL := []) (rest := []) (lenOf pd_il rfl) rfl (by show 2 * 0 + _ ≤ _; exact Nat.le_of_eq rfl) (hb hby dca_1) (fun _ _ => ⟨rfl, e0, (by decide : 0 + 0 ≤ _), (by decide : 0 + 0 ≤ _)⟩)
  dsimp only [Pt.U, Pt.locs, Pt.cells, Pt.slots] at X8 l8 y8 z8 st8 hQ8
  subst l8 y8 z8
  obtain ⟨rfl, N8q, e8⟩ := hQ8
  have N8 := Fr.app N0 N8q
  refine Goes.step (S' := T8.setTop (mkF m 4 #[.val (.ref a1), .val (.int p2)] [(.int (1 : Int32))])) (fun t k => st8.trans k) ?_
  refine Goes.step (S' := T8.setTop (mkF m 7 #[.val (.ref a1), .val (.int p2)] [])) (fun t k => XS.ifNo X8.here hx rfl (hb hby dca_4) rfl ((if0 _ _).trans (feq (by decide : ¬ (1 : Int32) = (0 : Int32))).1) k) ?_
  refine Goes.step (S' := T8.setTop (mkF m 8 #[.val (.ref a1), .val (.int p2)] [(.ref a1)])) (fun t k => XS.aloadN X8.here hx rfl (hb hby dca_7) rfl rfl k) ?_
  obtain ⟨T9, X9, e9, st9⟩ := getF X8 hx hZ hown (host := "") (Or.inl (hw _ (List.mem_of_getElem? (i := 30) rfl))) Via.refl e8 Fv (g := (mkF m 8 #[.val (.ref a1), .val (.int p2)] [(.ref a1)])) rfl rfl (hb hby dca_8)
  refine Goes.step (S' := T9.setTop (mkF m 11 #[.val (.ref a1), .val (.int p2)] [(.ref a3)])) (fun t k => st9 t k) ?_
  refine Goes.step (S' := T9.setTop (mkF m 12 #[.val (.ref a1), .val (.int p2)] [(.int p2), (.ref a3)])) (fun t k => XS.iloadN X9.here hx rfl (hb hby dca_11) rfl k) ?_
  obtain ⟨_, _, ⟨T10, L10, k10, n10⟩, -, X10, ⟨Lc10, hQ10, l10, y10, z10⟩, st10⟩ := Jvm.LawKit.callS X9 hx (y := (⟨"java/lang/StringLatin1", "charAt", "([BI)C"⟩ : MethodName)) hown (mvT hZ (hw _ (List.mem_of_getElem? (i := 50) rfl))) (mvT hZ (hw _ (List.mem_of_getElem? (i := 51) rfl))) (mvT hZ (hw _ (List.mem_of_getElem? (i := 52) rfl))) (mvT hZ (hw _ (List.mem_of_getElem? (i := 53) rfl))) (by decide) (backOf (W := 0) (rmla l Z a0 hw [] a3 p2 N b' cl vF h0 n0 Z0 SF hF Ar Sz hN c1 c2 hb') hZ (hw _ (List.mem_of_getElem? (i := 53) rfl)) (hw _ (List.mem_of_getElem? (i := 52) rfl)) (by decide) (by decide)) (g := (mkF m 12 #[.val (.ref a1), .val (.int p2)] [(.int p2), (.ref a3)])) rfl (by rw [hml]; rfl) (argsL := [(.ref a3), (.int p2)]) (rest := []) (lenOf pd_la rfl) rfl (by show 2 * 0 + _ ≤ _; exact Nat.le_of_eq rfl) (hb hby dca_12) (fun _ _ => ⟨rfl, e9, (by decide : 0 + 0 ≤ _), (by decide : 0 + 0 ≤ _)⟩)
  dsimp only [Pt.U, Pt.locs, Pt.cells, Pt.slots] at X10 l10 y10 z10 st10 hQ10
  subst l10 y10 z10
  obtain ⟨rfl, N10q, e10⟩ := hQ10
  have N10 := Fr.app N8 N10q
  refine Goes.step (S' := T10.setTop (mkF m 15 #[.val (.ref a1), .val (.int p2)] [(.int (b' &&& (255 : Int32)))])) (fun t k => st10 t k) ?_
  obtain ⟨fs, hr, hrun, hended, hW, hsame⟩ := X10.leave (v := some (.int (nar .char (b' &&& (255 : Int32))))) (fun h => by rw [Bd.returns] at h; cases h)
  exact ⟨_, _, retN X10 hx (t := .char) Bd.returns (by simp) (hb hby dca_15) hr, hrun, hended, _, _, rfl, ⟨congrArg (fun z => some (Value.int z)) (i2c_mask b'), N10, e10⟩, ⟨_, rfl⟩, hW, hsame.mono (by decide) (by decide)⟩
theorem dco_0 : decode jdk_42_method_152_code 0 = .ok (.getstatic 38, 3) := by decide +kernel
theorem dco_3 : decode jdk_42_method_152_code 3 = .ok (.ifCond .eq 10, 3) := by decide +kernel
theorem dco_6 : decode jdk_42_method_152_code 6 = .ok (.aload_n 0, 1) := by decide +kernel
theorem dco_7 : decode jdk_42_method_152_code 7 = .ok (.getfield 15, 3) := by decide +kernel
theorem dco_10 : decode jdk_42_method_152_code 10 = .ok (.goto 4, 3) := by decide +kernel
theorem dco_14 : decode jdk_42_method_152_code 14 = .ok (.ireturn, 1) := by decide +kernel
theorem pn_co : plainName "java/lang/String" = true := by first | (simp [plainName, overriddenIn]; done) | decide +kernel
theorem pd_co : parseMethodDescriptor "()B" = some ⟨[], some .byte⟩ := by decide +kernel
theorem ef_co (m : MethodId) (y0 : Addr) : entryFrame m #[(.ref y0)] 1 = mkF m 0 #[.val (.ref y0)] [] := by first | (simp [entryFrame, mkF, argsToLocals, Value.category]; done) | rfl
def Qco (Z : State) (a1 : Addr) (cs : Int32) (h0 : Heap) (n0 : Nat) (v : Option Value) (h : Heap) (L : List Loc) : Prop := v = some (.int 0) ∧ Fr n0 L ∧ h = h0
def Rco (Z : State) (a1 : Addr) (cs : Int32) (h0 : Heap) (n0 : Nat) (U : State) (U' : State) (o : Outcome) : Prop := ∃ v L, o = .returned v ∧ Qco Z a1 cs h0 n0 v U'.heap L ∧ FrameEnd U o U' L ({ frames := 0, cells := 0, slots := 0, locals := 0 } : Room).cells ({ frames := 0, cells := 0, slots := 0, locals := 0 } : Room).slots
set_option maxRecDepth 65536 in
set_option maxHeartbeats 40000000 in
theorem rmco (l : Launch) (Z : State) (a0 : Array Value) (hw : ∀ d ∈ tables_1, d.before a0 Z = true) (ws : List Jvm.Cond) (a1 : Addr) (cs : Int32) (h0 : Heap) (n0 : Nat) (Z0 : n0 ≤ h0.size) (SC : Sta Z h0 "java/lang/String" "COMPACT_STRINGS" "Z" (.int cs)) (hcs : ¬ cs = (0 : Int32)) (Fc : (Fld Z h0 a1 "java/lang/String" "coder" "B" (.int (0 : Int32)))) :
    MetFree l (⟨"java/lang/String", "coder", "()B"⟩ : MethodName) (head1 (Jvm.Cond.code (⟨"java/lang/String", "coder", "()B"⟩ : MethodName) jdk_42_method_152_code 1 (some .byte) :: ws) ({ frames := 0, cells := 0, slots := 0, locals := 0 } : Room)) (fun a U => a = #[(.ref a1)] ∧ Z.Warmed39 U.vm ∧ U.heap = h0) (fun _ _ _ _ _ => True) (fun _ U o U' => ∃ v L, o = .returned v ∧ Qco Z a1 cs h0 n0 v U'.heap L ∧ FrameEnd U o U' L ({ frames := 0, cells := 0, slots := 0, locals := 0 } : Room).cells ({ frames := 0, cells := 0, slots := 0, locals := 0 } : Room).slots) := by
  refine MetFree.of_bodySF (plainFor_of_name pn_co) hisR ?_
  intro p e s m args below meth c s₁ Bd hml0 hP hK
  obtain ⟨rfl, hZ, hh⟩ := hP
  have hx := Bd.exec
  have hby := Bd.bytes
  have hml : c.maxLocals = 1 := hml0
  have hown : s.vm.findClass "java/lang/String" = some m.cls := findClass_of_methodNamed Bd.named
  have hnm := (name_of_methodNamed Bd.named Bd.method).1
  have X0 : Stand p l e ({ frames := 0, cells := 0, slots := 0, locals := 0 } : Room) s m #[(.ref a1)] below meth c s₁ [] 0 0 := Stand.of_body Bd
  have e0 : s₁.heap = h0 := by rw [← hh, Bd.state]; rfl
  have N0 := Fr.nil n0
  show Goes p e below (Rco Z a1 cs h0 n0 s) (s₁.setTop (entryFrame m #[(.ref a1)] 1))
  refine Goes.step (S' := s₁.setTop (mkF m 0 #[.val (.ref a1)] [])) (fun t k => castTop (ef_co m a1) k) ?_
  obtain ⟨T11, X11, e11, st11⟩ := getS X0 hx hZ (host := "") hown (hw _ (List.mem_of_getElem? (i := 37) rfl)) Via.refl e0 SC (g := (mkF m 0 #[.val (.ref a1)] [])) rfl (hb hby dco_0)
  refine Goes.step (S' := T11.setTop (mkF m 3 #[.val (.ref a1)] [(.int cs)])) (fun t k => st11 t k) ?_
  refine Goes.step (S' := T11.setTop (mkF m 6 #[.val (.ref a1)] [])) (fun t k => XS.ifNo X11.here hx rfl (hb hby dco_3) rfl ((if0 _ _).trans (feq hcs).1) k) ?_
  refine Goes.step (S' := T11.setTop (mkF m 7 #[.val (.ref a1)] [(.ref a1)])) (fun t k => XS.aloadN X11.here hx rfl (hb hby dco_6) rfl rfl k) ?_
  obtain ⟨T12, X12, e12, st12⟩ := getF X11 hx hZ hown (host := "") (Or.inl (hw _ (List.mem_of_getElem? (i := 38) rfl))) Via.refl e11 Fc (g := (mkF m 7 #[.val (.ref a1)] [(.ref a1)])) rfl rfl (hb hby dco_7)
  refine Goes.step (S' := T12.setTop (mkF m 10 #[.val (.ref a1)] [(.int (0 : Int32))])) (fun t k => st12 t k) ?_
  refine Goes.step (S' := T12.setTop (mkF m 14 #[.val (.ref a1)] [(.int (0 : Int32))])) (fun t k => XS.goto X12.here hx rfl (pc0 := 10) (pc' := 14) rfl (hb hby dco_10) (by decide) (by decide) k) ?_
  obtain ⟨fs, hr, hrun, hended, hW, hsame⟩ := X12.leave (v := some (.int (0 : Int32))) (fun h => by rw [Bd.returns] at h; cases h)
  exact ⟨_, _, retN X12 hx (t := .byte) Bd.returns (by simp) (hb hby dco_14) hr, hrun, hended, _, _, rfl, ⟨rfl, N0, e12⟩, ⟨_, rfl⟩, hW, hsame.mono (by decide) (by decide)⟩
theorem dle_0 : decode jdk_42_method_54_code 0 = .ok (.aload_n 0, 1) := by decide +kernel
theorem dle_1 : decode jdk_42_method_54_code 1 = .ok (.getfield 9, 3) := by decide +kernel
theorem dle_4 : decode jdk_42_method_54_code 4 = .ok (.arraylength, 1) := by decide +kernel
theorem dle_5 : decode jdk_42_method_54_code 5 = .ok (.aload_n 0, 1) := by decide +kernel
theorem dle_6 : decode jdk_42_method_54_code 6 = .ok (.invokevirtual 335, 3) := by decide +kernel
theorem dle_9 : decode jdk_42_method_54_code 9 = .ok (.ishr, 1) := by decide +kernel
theorem dle_10 : decode jdk_42_method_54_code 10 = .ok (.ireturn, 1) := by decide +kernel
theorem pn_le : plainName "java/lang/String" = true := by first | (simp [plainName, overriddenIn]; done) | decide +kernel
theorem pd_le : parseMethodDescriptor "()I" = some ⟨[], some .int⟩ := by decide +kernel
theorem own_shr0 (x : Int32) : x >>> ((0 : Int32) &&& 31) = x := by have e : ((0 : Int32) &&& 31) = 0 := by decide
                                                                    rw [e]; simp
theorem ef_le (m : MethodId) (y0 : Addr) : entryFrame m #[(.ref y0)] 1 = mkF m 0 #[.val (.ref y0)] [] := by first | (simp [entryFrame, mkF, argsToLocals, Value.category]; done) | rfl
def Qle (Z : State) (a1 : Addr) (a3 : Addr) (N : Int32) (cl : Cell) (cs : Int32) (h0 : Heap) (n0 : Nat) (v : Option Value) (h : Heap) (L : List Loc) : Prop := v = some (.int N) ∧ Fr n0 L ∧ h = h0
def Rle (Z : State) (a1 : Addr) (a3 : Addr) (N : Int32) (cl : Cell) (cs : Int32) (h0 : Heap) (n0 : Nat) (U : State) (U' : State) (o : Outcome) : Prop := ∃ v L, o = .returned v ∧ Qle Z a1 a3 N cl cs h0 n0 v U'.heap L ∧ FrameEnd U o U' L ({ frames := 1, cells := 0, slots := 0, locals := 13 } : Room).cells ({ frames := 1, cells := 0, slots := 0, locals := 13 } : Room).slots
set_option maxRecDepth 65536 in
set_option maxHeartbeats 40000000 in
theorem rmle (l : Launch) (Z : State) (a0 : Array Value) (hw : ∀ d ∈ tables_1, d.before a0 Z = true) (ws : List Jvm.Cond) (a1 : Addr) (a3 : Addr) (N : Int32) (cl : Cell) (cs : Int32) (h0 : Heap) (n0 : Nat) (Z0 : n0 ≤ h0.size) (SC : Sta Z h0 "java/lang/String" "COMPACT_STRINGS" "Z" (.int cs)) (hcs : ¬ cs = (0 : Int32)) (Ev : Exa Z h0 a1 "java/lang/String") (Fc : (Fld Z h0 a1 "java/lang/String" "coder" "B" (.int (0 : Int32)))) (Fv : (Fld Z h0 a1 "java/lang/String" "value" "[B" (.ref a3))) (Ar : Arr Z h0 a3 cl .byte) (Sz : cl.slots.size = N.toNatClampNeg) (hN : ¬ N < (0 : Int32)) :
    MetFree l (⟨"java/lang/String", "length", "()I"⟩ : MethodName) (head1 (Jvm.Cond.code (⟨"java/lang/String", "length", "()I"⟩ : MethodName) jdk_42_method_54_code 1 (some .int) :: ws) ({ frames := 1, cells := 0, slots := 0, locals := 13 } : Room)) (fun a U => a = #[(.ref a1)] ∧ Z.Warmed39 U.vm ∧ U.heap = h0) (fun _ _ _ _ _ => True) (fun _ U o U' => ∃ v L, o = .returned v ∧ Qle Z a1 a3 N cl cs h0 n0 v U'.heap L ∧ FrameEnd U o U' L ({ frames := 1, cells := 0, slots := 0, locals := 13 } : Room).cells ({ frames := 1, cells := 0, slots := 0, locals := 13 } : Room).slots) := by
  refine MetFree.of_bodySF (plainFor_of_name pn_le) hisR ?_
  intro p e s m args below meth c s₁ Bd hml0 hP hK
  obtain ⟨rfl, hZ, hh⟩ := hP
  have hx := Bd.exec
  have hby := Bd.bytes
  have hml : c.maxLocals = 1 := hml0
  have hown : s.vm.findClass "java/lang/String" = some m.cls := findClass_of_methodNamed Bd.named
  have hnm := (name_of_methodNamed Bd.named Bd.method).1
  have X0 : Stand p l e ({ frames := 1, cells := 0, slots := 0, locals := 13 } : Room) s m #[(.ref a1)] below meth c s₁ [] 0 0 := Stand.of_body Bd
  have e0 : s₁.heap = h0 := by rw [← hh, Bd.state]; rfl
  have N0 := Fr.nil n0
  show Goes p e below (Rle Z a1 a3 N cl cs h0 n0 s) (s₁.setTop (entryFrame m #[(.ref a1)] 1))
  refine Goes.step (S' := s₁.setTop (mkF m 0 #[.val (.ref a1)] [])) (fun t k => castTop (ef_le m a1) k) ?_
  refine Goes.step (S' := s₁.setTop (mkF m 1 #[.val (.ref a1)] [(.ref a1)])) (fun t k => XS.aloadN X0.here hx rfl (hb hby dle_0) rfl rfl k) ?_
  obtain ⟨T13, X13, e13, st13⟩ := getF X0 hx hZ hown (host := "") (Or.inl (hw _ (List.mem_of_getElem? (i := 30) rfl))) Via.refl e0 Fv (g := (mkF m 1 #[.val (.ref a1)] [(.ref a1)])) rfl rfl (hb hby dle_1)
  refine Goes.step (S' := T13.setTop (mkF m 4 #[.val (.ref a1)] [(.ref a3)])) (fun t k => st13 t k) ?_
  refine Goes.step (S' := T13.setTop (mkF m 5 #[.val (.ref a1)] [(.int N)])) (fun t k => X13.arraylength hx (by rw [e13]; exact Ar.1) (State.isArrayOf_alike hZ.alike Ar.2.1) (g := (mkF m 4 #[.val (.ref a1)] [(.ref a3)])) rfl rfl (hb hby dle_4) _ (by rw [len_of Sz hN]; exact k)) ?_
  refine Goes.step (S' := T13.setTop (mkF m 6 #[.val (.ref a1)] [(.ref a1), (.int N)])) (fun t k => XS.aloadN X13.here hx rfl (hb hby dle_5) rfl rfl k) ?_
  obtain ⟨cq14, kq14, q14a, q14b, q14c⟩ := isOf hZ e13 Ev
  obtain ⟨_, _, ⟨T14, L14, k14, n14⟩, -, X14, ⟨Lc14, hQ14, l14, y14, z14⟩, st14⟩ := X13.virtualBack hx (y := (⟨"java/lang/String", "coder", "()B"⟩ : MethodName)) (z := (⟨"java/lang/String", "coder", "()B"⟩ : MethodName)) hown (mvT hZ (hw _ (List.mem_of_getElem? (i := 32) rfl))) (mvT hZ (hw _ (List.mem_of_getElem? (i := 33) rfl))) (notFace_of_selects (args := #[]) (mvT hZ (hw _ (List.mem_of_getElem? (i := 35) rfl)))) (mvT hZ (hw _ (List.mem_of_getElem? (i := 35) rfl))) (mvT hZ (hw _ (List.mem_of_getElem? (i := 34) rfl))) (by decide) (backOf (W := 1) (rmco l Z a0 hw [] a1 cs h0 n0 Z0 SC hcs Fc) hZ (hw _ (List.mem_of_getElem? (i := 36) rfl)) (hw _ (List.mem_of_getElem? (i := 28) rfl)) (by decide) (by decide)) q14a q14c (g := (mkF m 6 #[.val (.ref a1)] [(.ref a1), (.int N)])) rfl (by rw [hml]; rfl) (Steps.refl _) (argsL := []) (rest := [(.int N)]) (lenOf pd_co rfl) rfl (by show 2 * 0 + _ ≤ _; exact Nat.le_of_eq rfl) (hb hby dle_6) (fun _ _ => ⟨rfl, e13, (by decide : 0 + 0 ≤ _), (by decide : 0 + 0 ≤ _)⟩)
  dsimp only [Pt.U, Pt.locs, Pt.cells, Pt.slots] at X14 l14 y14 z14 st14 hQ14
  subst l14 y14 z14
  obtain ⟨rfl, N14q, e14⟩ := hQ14
  have N14 := Fr.app N0 N14q
  refine Goes.step (S' := T14.setTop (mkF m 9 #[.val (.ref a1)] [(.int (0 : Int32)), (.int N)])) (fun t k => st14.trans k) ?_
  refine Goes.step (S' := T14.setTop (mkF m 10 #[.val (.ref a1)] [(.int N)])) (fun t k => XS.ishr X14.here hx rfl (hb hby dle_9) rfl (by rw [own_shr0]; exact k)) ?_
  obtain ⟨fs, hr, hrun, hended, hW, hsame⟩ := X14.leave (v := some (.int N)) (fun h => by rw [Bd.returns] at h; cases h)
  exact ⟨_, _, retI X14 hx Bd.returns (hb hby dle_10) hr, hrun, hended, _, _, rfl, ⟨rfl, N14, e14⟩, ⟨_, rfl⟩, hW, hsame.mono (by decide) (by decide)⟩
theorem dsy_0 : decode prog_24_method_4_code 0 = .ok (.aload_n 0, 1) := by decide +kernel
theorem dsy_1 : decode prog_24_method_4_code 1 = .ok (.getfield 41, 3) := by decide +kernel
theorem dsy_4 : decode prog_24_method_4_code 4 = .ok (.areturn, 1) := by decide +kernel
theorem pn_sy : plainName "com/example/rbac_check/rbaccheck/policy/Condition$Operator" = true := by first | (simp [plainName, overriddenIn]; done) | decide +kernel
theorem pd_sy : parseMethodDescriptor "()Ljava/lang/String;" = some ⟨[], some (.object "java/lang/String")⟩ := by decide +kernel
theorem ef_sy (m : MethodId) (y0 : Addr) : entryFrame m #[(.ref y0)] 1 = mkF m 0 #[.val (.ref y0)] [] := by first | (simp [entryFrame, mkF, argsToLocals, Value.category]; done) | rfl
def Qsy (Z : State) (a1 : Addr) (a2 : Addr) (h0 : Heap) (n0 : Nat) (v : Option Value) (h : Heap) (L : List Loc) : Prop := v = some (.ref a2) ∧ Fr n0 L ∧ h = h0
def Rsy (Z : State) (a1 : Addr) (a2 : Addr) (h0 : Heap) (n0 : Nat) (U : State) (U' : State) (o : Outcome) : Prop := ∃ v L, o = .returned v ∧ Qsy Z a1 a2 h0 n0 v U'.heap L ∧ FrameEnd U o U' L ({ frames := 0, cells := 0, slots := 0, locals := 0 } : Room).cells ({ frames := 0, cells := 0, slots := 0, locals := 0 } : Room).slots
set_option maxRecDepth 65536 in
set_option maxHeartbeats 40000000 in
theorem rmsy (l : Launch) (Z : State) (a0 : Array Value) (hw : ∀ d ∈ tables_1, d.before a0 Z = true) (ws : List Jvm.Cond) (a1 : Addr) (a2 : Addr) (h0 : Heap) (n0 : Nat) (Z0 : n0 ≤ h0.size) (F1 : (Fld Z h0 a1 "com/example/rbac_check/rbaccheck/policy/Condition$Operator" "symbol" "Ljava/lang/String;" (.ref a2))) :
    MetFree l (⟨"com/example/rbac_check/rbaccheck/policy/Condition$Operator", "symbol", "()Ljava/lang/String;"⟩ : MethodName) (head1 (Jvm.Cond.code (⟨"com/example/rbac_check/rbaccheck/policy/Condition$Operator", "symbol", "()Ljava/lang/String;"⟩ : MethodName) prog_24_method_4_code 1 (some (.object "java/lang/String")) :: ws) ({ frames := 0, cells := 0, slots := 0, locals := 0 } : Room)) (fun a U => a = #[(.ref a1)] ∧ Z.Warmed39 U.vm ∧ U.heap = h0) (fun _ _ _ _ _ => True) (fun _ U o U' => ∃ v L, o = .returned v ∧ Qsy Z a1 a2 h0 n0 v U'.heap L ∧ FrameEnd U o U' L ({ frames := 0, cells := 0, slots := 0, locals := 0 } : Room).cells ({ frames := 0, cells := 0, slots := 0, locals := 0 } : Room).slots) := by
  refine MetFree.of_bodySF (plainFor_of_name pn_sy) hisR ?_
  intro p e s m args below meth c s₁ Bd hml0 hP hK
  obtain ⟨rfl, hZ, hh⟩ := hP
  have hx := Bd.exec
  have hby := Bd.bytes
  have hml : c.maxLocals = 1 := hml0
  have hown : s.vm.findClass "com/example/rbac_check/rbaccheck/policy/Condition$Operator" = some m.cls := findClass_of_methodNamed Bd.named
  have hnm := (name_of_methodNamed Bd.named Bd.method).1
  have X0 : Stand p l e ({ frames := 0, cells := 0, slots := 0, locals := 0 } : Room) s m #[(.ref a1)] below meth c s₁ [] 0 0 := Stand.of_body Bd
  have e0 : s₁.heap = h0 := by rw [← hh, Bd.state]; rfl
  have N0 := Fr.nil n0
  show Goes p e below (Rsy Z a1 a2 h0 n0 s) (s₁.setTop (entryFrame m #[(.ref a1)] 1))
  refine Goes.step (S' := s₁.setTop (mkF m 0 #[.val (.ref a1)] [])) (fun t k => castTop (ef_sy m a1) k) ?_
  refine Goes.step (S' := s₁.setTop (mkF m 1 #[.val (.ref a1)] [(.ref a1)])) (fun t k => XS.aloadN X0.here hx rfl (hb hby dsy_0) rfl rfl k) ?_
  obtain ⟨T15, X15, e15, st15⟩ := getF X0 hx hZ hown (host := "") (Or.inl (hw _ (List.mem_of_getElem? (i := 22) rfl))) Via.refl e0 F1 (g := (mkF m 1 #[.val (.ref a1)] [(.ref a1)])) rfl rfl (hb hby dsy_1)
  refine Goes.step (S' := T15.setTop (mkF m 4 #[.val (.ref a1)] [(.ref a2)])) (fun t k => st15 t k) ?_
  obtain ⟨fs, hr, hrun, hended, hW, hsame⟩ := X15.leave (v := some (.ref a2)) (fun h => by rw [Bd.returns] at h; cases h)
  exact ⟨_, _, retOut X15 hx Bd.returns rfl (Or.inr (Or.inr (Or.inr (Or.inr ⟨rfl, rfl, rfl⟩)))) (hb hby dsy_4) hr, hrun, hended, _, _, rfl, ⟨rfl, N0, e15⟩, ⟨_, rfl⟩, hW, hsame.mono (by decide) (by decide)⟩
theorem deq_0 : decode prog_24_method_5_code 0 = .ok (.aload_n 0, 1) := by decide +kernel
theorem deq_1 : decode prog_24_method_5_code 1 = .ok (.getstatic 3, 3) := by decide +kernel
theorem deq_4 : decode prog_24_method_5_code 4 = .ok (.if_acmp .eq 10, 3) := by decide +kernel
theorem deq_7 : decode prog_24_method_5_code 7 = .ok (.aload_n 0, 1) := by decide +kernel
theorem deq_8 : decode prog_24_method_5_code 8 = .ok (.getstatic 7, 3) := by decide +kernel
theorem deq_11 : decode prog_24_method_5_code 11 = .ok (.if_acmp .ne 7, 3) := by decide +kernel
theorem deq_14 : decode prog_24_method_5_code 14 = .ok (.iconst 1, 1) := by decide +kernel
theorem deq_15 : decode prog_24_method_5_code 15 = .ok (.goto 4, 3) := by decide +kernel
theorem deq_18 : decode prog_24_method_5_code 18 = .ok (.iconst 0, 1) := by decide +kernel
theorem deq_19 : decode prog_24_method_5_code 19 = .ok (.ireturn, 1) := by decide +kernel
theorem pn_eq : plainName "com/example/rbac_check/rbaccheck/policy/Condition$Operator" = true := by first | (simp [plainName, overriddenIn]; done) | decide +kernel
theorem pd_eq : parseMethodDescriptor "()Z" = some ⟨[], some .boolean⟩ := by decide +kernel
theorem ef_eq (m : MethodId) (y0 : Addr) : entryFrame m #[(.ref y0)] 1 = mkF m 0 #[.val (.ref y0)] [] := by first | (simp [entryFrame, mkF, argsToLocals, Value.category]; done) | rfl
def Qeq (Z : State) (a1 : Addr) (b0 : Addr) (b1 : Addr) (h0 : Heap) (n0 : Nat) (v : Option Value) (h : Heap) (L : List Loc) : Prop := v = some (.int (own_isf a1 b0 b1)) ∧ Fr n0 L ∧ h = h0
def Req (Z : State) (a1 : Addr) (b0 : Addr) (b1 : Addr) (h0 : Heap) (n0 : Nat) (U : State) (U' : State) (o : Outcome) : Prop := ∃ v L, o = .returned v ∧ Qeq Z a1 b0 b1 h0 n0 v U'.heap L ∧ FrameEnd U o U' L ({ frames := 0, cells := 0, slots := 0, locals := 0 } : Room).cells ({ frames := 0, cells := 0, slots := 0, locals := 0 } : Room).slots
set_option maxRecDepth 65536 in
set_option maxHeartbeats 40000000 in
theorem rmeq (l : Launch) (Z : State) (a0 : Array Value) (hw : ∀ d ∈ tables_1, d.before a0 Z = true) (ws : List Jvm.Cond) (a1 : Addr) (b0 : Addr) (b1 : Addr) (h0 : Heap) (n0 : Nat) (Z0 : n0 ≤ h0.size) (S0 : (Sta Z h0 "com/example/rbac_check/rbaccheck/policy/Condition$Operator" "EQUAL" "Lcom/example/rbac_check/rbaccheck/policy/Condition$Operator;" (.ref b0))) (S1 : (Sta Z h0 "com/example/rbac_check/rbaccheck/policy/Condition$Operator" "NOT_EQUAL" "Lcom/example/rbac_check/rbaccheck/policy/Condition$Operator;" (.ref b1))) :
    MetFree l (⟨"com/example/rbac_check/rbaccheck/policy/Condition$Operator", "isEquality", "()Z"⟩ : MethodName) (head1 (Jvm.Cond.code (⟨"com/example/rbac_check/rbaccheck/policy/Condition$Operator", "isEquality", "()Z"⟩ : MethodName) prog_24_method_5_code 1 (some .boolean) :: ws) ({ frames := 0, cells := 0, slots := 0, locals := 0 } : Room)) (fun a U => a = #[(.ref a1)] ∧ Z.Warmed39 U.vm ∧ U.heap = h0) (fun _ _ _ _ _ => True) (fun _ U o U' => ∃ v L, o = .returned v ∧ Qeq Z a1 b0 b1 h0 n0 v U'.heap L ∧ FrameEnd U o U' L ({ frames := 0, cells := 0, slots := 0, locals := 0 } : Room).cells ({ frames := 0, cells := 0, slots := 0, locals := 0 } : Room).slots) := by
  refine MetFree.of_bodySF (plainFor_of_name pn_eq) hisR ?_
  intro p e s m args below meth c s₁ Bd hml0 hP hK
  obtain ⟨rfl, hZ, hh⟩ := hP
  have hx := Bd.exec
  have hby := Bd.bytes
  have hml : c.maxLocals = 1 := hml0
  have hown : s.vm.findClass "com/example/rbac_check/rbaccheck/policy/Condition$Operator" = some m.cls := findClass_of_methodNamed Bd.named
  have hnm := (name_of_methodNamed Bd.named Bd.method).1
  have X0 : Stand p l e ({ frames := 0, cells := 0, slots := 0, locals := 0 } : Room) s m #[(.ref a1)] below meth c s₁ [] 0 0 := Stand.of_body Bd
  have e0 : s₁.heap = h0 := by rw [← hh, Bd.state]; rfl
  have N0 := Fr.nil n0
  show Goes p e below (Req Z a1 b0 b1 h0 n0 s) (s₁.setTop (entryFrame m #[(.ref a1)] 1))
  refine Goes.step (S' := s₁.setTop (mkF m 0 #[.val (.ref a1)] [])) (fun t k => castTop (ef_eq m a1) k) ?_
  refine Goes.step (S' := s₁.setTop (mkF m 1 #[.val (.ref a1)] [(.ref a1)])) (fun t k => XS.aloadN X0.here hx rfl (hb hby deq_0) rfl rfl k) ?_
  obtain ⟨T16, X16, e16, st16⟩ := getS X0 hx hZ (host := "") hown (hw _ (List.mem_of_getElem? (i := 67) rfl)) Via.refl e0 S0 (g := (mkF m 1 #[.val (.ref a1)] [(.ref a1)])) rfl (hb hby deq_1)
  refine Goes.step (S' := T16.setTop (mkF m 4 #[.val (.ref a1)] [(.ref b0), (.ref a1)])) (fun t k => st16 t k) ?_
  by_cases c1 : a1 = b0
  · refine Goes.step (S' := T16.setTop (mkF m 14 #[.val (.ref a1)] [])) (fun t k => Jvm.RoadKit.acmp X16 hx rfl rfl rfl (pc0 := 4) (pc' := 14) (same := true) rfl (hb hby deq_4) rfl (decide_eq_true (congrArg Value.ref c1)) (by decide) (by decide) k) ?_
    refine Goes.step (S' := T16.setTop (mkF m 15 #[.val (.ref a1)] [(.int (1 : Int32))])) (fun t k => XS.iconst X16.here hx rfl (hb hby deq_14) k) ?_
    refine Goes.step (S' := T16.setTop (mkF m 19 #[.val (.ref a1)] [(.int (1 : Int32))])) (fun t k => XS.goto X16.here hx rfl (pc0 := 15) (pc' := 19) rfl (hb hby deq_15) (by decide) (by decide) k) ?_
    obtain ⟨fs, hr, hrun, hended, hW, hsame⟩ := X16.leave (v := some (.int (1 : Int32))) (fun h => by rw [Bd.returns] at h; cases h)
    exact ⟨_, _, retN X16 hx (t := .boolean) Bd.returns (by simp) (hb hby deq_19) hr, hrun, hended, _, _, rfl, ⟨by rw [own_isf_a c1], N0, e16⟩, ⟨_, rfl⟩, hW, hsame.mono (by decide) (by decide)⟩
  · refine Goes.step (S' := T16.setTop (mkF m 7 #[.val (.ref a1)] [])) (fun t k => Jvm.RoadKit.acmp X16 hx rfl rfl rfl (pc0 := 4) (pc' := 7) (same := false) rfl (hb hby deq_4) rfl (decide_eq_false (fun q => c1 (Value.ref.inj q))) (by decide) (by decide) k) ?_
    refine Goes.step (S' := T16.setTop (mkF m 8 #[.val (.ref a1)] [(.ref a1)])) (fun t k => XS.aloadN X16.here hx rfl (hb hby deq_7) rfl rfl k) ?_
    obtain ⟨T17, X17, e17, st17⟩ := getS X16 hx hZ (host := "") hown (hw _ (List.mem_of_getElem? (i := 68) rfl)) Via.refl e16 S1 (g := (mkF m 8 #[.val (.ref a1)] [(.ref a1)])) rfl (hb hby deq_8)
    refine Goes.step (S' := T17.setTop (mkF m 11 #[.val (.ref a1)] [(.ref b1), (.ref a1)])) (fun t k => st17 t k) ?_
    by_cases c2 : a1 = b1
    · refine Goes.step (S' := T17.setTop (mkF m 14 #[.val (.ref a1)] [])) (fun t k => Jvm.RoadKit.acmp X17 hx rfl rfl rfl (pc0 := 11) (pc' := 14) (same := true) rfl (hb hby deq_11) rfl (decide_eq_true (congrArg Value.ref c2)) (by decide) (by decide) k) ?_
      refine Goes.step (S' := T17.setTop (mkF m 15 #[.val (.ref a1)] [(.int (1 : Int32))])) (fun t k => XS.iconst X17.here hx rfl (hb hby deq_14) k) ?_
      refine Goes.step (S' := T17.setTop (mkF m 19 #[.val (.ref a1)] [(.int (1 : Int32))])) (fun t k => XS.goto X17.here hx rfl (pc0 := 15) (pc' := 19) rfl (hb hby deq_15) (by decide) (by decide) k) ?_
      obtain ⟨fs, hr, hrun, hended, hW, hsame⟩ := X17.leave (v := some (.int (1 : Int32))) (fun h => by rw [Bd.returns] at h; cases h)
      exact ⟨_, _, retN X17 hx (t := .boolean) Bd.returns (by simp) (hb hby deq_19) hr, hrun, hended, _, _, rfl, ⟨by rw [own_isf_b c1 c2], N0, e17⟩, ⟨_, rfl⟩, hW, hsame.mono (by decide) (by decide)⟩
    · refine Goes.step (S' := T17.setTop (mkF m 18 #[.val (.ref a1)] [])) (fun t k => Jvm.RoadKit.acmp X17 hx rfl rfl rfl (pc0 := 11) (pc' := 18) (same := false) rfl (hb hby deq_11) rfl (decide_eq_false (fun q => c2 (Value.ref.inj q))) (by decide) (by decide) k) ?_
      refine Goes.step (S' := T17.setTop (mkF m 19 #[.val (.ref a1)] [(.int (0 : Int32))])) (fun t k => XS.iconst X17.here hx rfl (hb hby deq_18) k) ?_
      obtain ⟨fs, hr, hrun, hended, hW, hsame⟩ := X17.leave (v := some (.int (0 : Int32))) (fun h => by rw [Bd.returns] at h; cases h)
      exact ⟨_, _, retN X17 hx (t := .boolean) Bd.returns (by simp) (hb hby deq_19) hr, hrun, hended, _, _, rfl, ⟨by rw [own_isf_0 c1 c2], N0, e17⟩, ⟨_, rfl⟩, hW, hsame.mono (by decide) (by decide)⟩
theorem pn_0 : plainName "com/example/rbac_check/rbaccheck/policy/OperatorIsEqualityPinLaw" = true := by first | (simp [plainName, overriddenIn]; done) | decide +kernel
theorem pd_0 : parseMethodDescriptor "(I)Z" = some ⟨[.int], some .boolean⟩ := by decide +kernel
theorem ef_0 (m : MethodId) (y0 : Int32) : entryFrame m #[(.int y0)] maxLocals = mkF m 0 #[.val (.int y0), .unset, .unset, .unset, .unset, .unset, .unset] [] := by first | (simp [entryFrame, mkF, argsToLocals, Value.category, maxLocals]; done) | rfl
def Q0 (Z : State) (p1 : Int32) (b0 : Addr) (b1 : Addr) (b2 : Addr) (b3 : Addr) (b4 : Addr) (b5 : Addr) (s0 : Addr) (s1 : Addr) (s2 : Addr) (s3 : Addr) (s4 : Addr) (s5 : Addr) (v0 : Addr) (v1 : Addr) (v2 : Addr) (v3 : Addr) (v4 : Addr) (v5 : Addr) (cl0 : Cell) (cl1 : Cell) (cl2 : Cell) (cl3 : Cell) (cl4 : Cell) (cl5 : Cell) (vF : Value) (cs : Int32) (h0 : Heap) (n0 : Nat) (v : Option Value) (h : Heap) (L : List Loc) : Prop := v = some (.int 1) ∧ Fr n0 L
def R0 (Z : State) (p1 : Int32) (b0 : Addr) (b1 : Addr) (b2 : Addr) (b3 : Addr) (b4 : Addr) (b5 : Addr) (s0 : Addr) (s1 : Addr) (s2 : Addr) (s3 : Addr) (s4 : Addr) (s5 : Addr) (v0 : Addr) (v1 : Addr) (v2 : Addr) (v3 : Addr) (v4 : Addr) (v5 : Addr) (cl0 : Cell) (cl1 : Cell) (cl2 : Cell) (cl3 : Cell) (cl4 : Cell) (cl5 : Cell) (vF : Value) (cs : Int32) (h0 : Heap) (n0 : Nat) (U : State) (U' : State) (o : Outcome) : Prop := ∃ v L, o = .returned v ∧ Q0 Z p1 b0 b1 b2 b3 b4 b5 s0 s1 s2 s3 s4 s5 v0 v1 v2 v3 v4 v5 cl0 cl1 cl2 cl3 cl4 cl5 vF cs h0 n0 v U'.heap L ∧ FrameEnd U o U' L room_1.cells room_1.slots
set_option maxRecDepth 65536 in
set_option maxHeartbeats 40000000 in
theorem rm0 (l : Launch) (Z : State) (a0 : Array Value) (hw : ∀ d ∈ tables_1, d.before a0 Z = true) (ws : List Jvm.Cond) (p1 : Int32) (b0 : Addr) (b1 : Addr) (b2 : Addr) (b3 : Addr) (b4 : Addr) (b5 : Addr) (s0 : Addr) (s1 : Addr) (s2 : Addr) (s3 : Addr) (s4 : Addr) (s5 : Addr) (v0 : Addr) (v1 : Addr) (v2 : Addr) (v3 : Addr) (v4 : Addr) (v5 : Addr) (cl0 : Cell) (cl1 : Cell) (cl2 : Cell) (cl3 : Cell) (cl4 : Cell) (cl5 : Cell) (vF : Value) (cs : Int32) (h0 : Heap) (n0 : Nat) (Z0 : n0 ≤ h0.size) (O0 : Old Z n0 h0) (SF : Sta Z Z.heap "jdk/internal/util/Preconditions" "SIOOBE_FORMATTER" "Ljava/util/function/BiFunction;" vF) (hF : vF.isRef = true) (SC : Sta Z Z.heap "java/lang/String" "COMPACT_STRINGS" "Z" (.int cs)) (hcs : ¬ cs = (0 : Int32)) (S0 : (Sta Z Z.heap "com/example/rbac_check/rbaccheck/policy/Condition$Operator" "EQUAL" "Lcom/example/rbac_check/rbaccheck/policy/Condition$Operator;" (.ref b0))) (E0 : Exa Z Z.heap b0 "com/example/rbac_check/rbaccheck/policy/Condition$Operator") (Y0 : (Fld Z Z.heap b0 "com/example/rbac_check/rbaccheck/policy/Condition$Operator" "symbol" "Ljava/lang/String;" (.ref s0))) (Es0 : Exa Z Z.heap s0 "java/lang/String") (Fc0 : (Fld Z Z.heap s0 "java/lang/String" "coder" "B" (.int (0 : Int32)))) (Fv0 : (Fld Z Z.heap s0 "java/lang/String" "value" "[B" (.ref v0))) (Ar0 : Arr Z Z.heap v0 cl0 .byte) (Sz0 : cl0.slots.size = (1 : Int32).toNatClampNeg) (by0 : cl0.slots[(0 : Int32).toNatClampNeg]? = some (.int (61 : Int32))) (S1 : (Sta Z Z.heap "com/example/rbac_check/rbaccheck/policy/Condition$Operator" "NOT_EQUAL" "Lcom/example/rbac_check/rbaccheck/policy/Condition$Operator;" (.ref b1))) (E1 : Exa Z Z.heap b1 "com/example/rbac_check/rbaccheck/policy/Condition$Operator") (Y1 : (Fld Z Z.heap b1 "com/example/rbac_check/rbaccheck/policy/Condition$Operator" "symbol" "Ljava/lang/String;" (.ref s1))) (Es1 : Exa Z Z.heap s1 "java/lang/String") (Fc1 : (Fld Z Z.heap s1 "java/lang/String" "coder" "B" (.int (0 : Int32)))) (Fv1 : (Fld Z Z.heap s1 "java/lang/String" "value" "[B" (.ref v1))) (Ar1 : Arr Z Z.heap v1 cl1 .byte) (Sz1 : cl1.slots.size = (2 : Int32).toNatClampNeg) (by1 : cl1.slots[(0 : Int32).toNatClampNeg]? = some (.int (33 : Int32))) (S2 : (Sta Z Z.heap "com/example/rbac_check/rbaccheck/policy/Condition$Operator" "LESS" "Lcom/example/rbac_check/rbaccheck/policy/Condition$Operator;" (.ref b2))) (E2 : Exa Z Z.heap b2 "com/example/rbac_check/rbaccheck/policy/Condition$Operator") (Y2 : (Fld Z Z.heap b2 "com/example/rbac_check/rbaccheck/policy/Condition$Operator" "symbol" "Ljava/lang/String;" (.ref s2))) (Es2 : Exa Z Z.heap s2 "java/lang/String") (Fc2 : (Fld Z Z.heap s2 "java/lang/String" "coder" "B" (.int (0 : Int32)))) (Fv2 : (Fld Z Z.heap s2 "java/lang/String" "value" "[B" (.ref v2))) (Ar2 : Arr Z Z.heap v2 cl2 .byte) (Sz2 : cl2.slots.size = (1 : Int32).toNatClampNeg) (by2 : cl2.slots[(0 : Int32).toNatClampNeg]? = some (.int (60 : Int32))) (S3 : (Sta Z Z.heap "com/example/rbac_check/rbaccheck/policy/Condition$Operator" "AT_MOST" "Lcom/example/rbac_check/rbaccheck/policy/Condition$Operator;" (.ref b3))) (E3 : Exa Z Z.heap b3 "com/example/rbac_check/rbaccheck/policy/Condition$Operator") (Y3 : (Fld Z Z.heap b3 "com/example/rbac_check/rbaccheck/policy/Condition$Operator" "symbol" "Ljava/lang/String;" (.ref s3))) (Es3 : Exa Z Z.heap s3 "java/lang/String") (Fc3 : (Fld Z Z.heap s3 "java/lang/String" "coder" "B" (.int (0 : Int32)))) (Fv3 : (Fld Z Z.heap s3 "java/lang/String" "value" "[B" (.ref v3))) (Ar3 : Arr Z Z.heap v3 cl3 .byte) (Sz3 : cl3.slots.size = (2 : Int32).toNatClampNeg) (by3 : cl3.slots[(0 : Int32).toNatClampNeg]? = some (.int (60 : Int32))) (S4 : (Sta Z Z.heap "com/example/rbac_check/rbaccheck/policy/Condition$Operator" "GREATER" "Lcom/example/rbac_check/rbaccheck/policy/Condition$Operator;" (.ref b4))) (E4 : Exa Z Z.heap b4 "com/example/rbac_check/rbaccheck/policy/Condition$Operator") (Y4 : (Fld Z Z.heap b4 "com/example/rbac_check/rbaccheck/policy/Condition$Operator" "symbol" "Ljava/lang/String;" (.ref s4))) (Es4 : Exa Z Z.heap s4 "java/lang/String") (Fc4 : (Fld Z Z.heap s4 "java/lang/String" "coder" "B" (.int (0 : Int32)))) (Fv4 : (Fld Z Z.heap s4 "java/lang/String" "value" "[B" (.ref v4))) (Ar4 : Arr Z Z.heap v4 cl4 .byte) (Sz4 : cl4.slots.size = (1 : Int32).toNatClampNeg) (by4 : cl4.slots[(0 : Int32).toNatClampNeg]? = some (.int (62 : Int32))) (S5 : (Sta Z Z.heap "com/example/rbac_check/rbaccheck/policy/Condition$Operator" "AT_LEAST" "Lcom/example/rbac_check/rbaccheck/policy/Condition$Operator;" (.ref b5))) (E5 : Exa Z Z.heap b5 "com/example/rbac_check/rbaccheck/policy/Condition$Operator") (Y5 : (Fld Z Z.heap b5 "com/example/rbac_check/rbaccheck/policy/Condition$Operator" "symbol" "Ljava/lang/String;" (.ref s5))) (Es5 : Exa Z Z.heap s5 "java/lang/String") (Fc5 : (Fld Z Z.heap s5 "java/lang/String" "coder" "B" (.int (0 : Int32)))) (Fv5 : (Fld Z Z.heap s5 "java/lang/String" "value" "[B" (.ref v5))) (Ar5 : Arr Z Z.heap v5 cl5 .byte) (Sz5 : cl5.slots.size = (2 : Int32).toNatClampNeg) (by5 : cl5.slots[(0 : Int32).toNatClampNeg]? = some (.int (62 : Int32))) (n10 : ¬ b1 = b0) (n20 : ¬ b2 = b0) (n21 : ¬ b2 = b1) (n30 : ¬ b3 = b0) (n31 : ¬ b3 = b1) (n40 : ¬ b4 = b0) (n41 : ¬ b4 = b1) (n50 : ¬ b5 = b0) (n51 : ¬ b5 = b1) :
    MetFree l x (head1 (Jvm.Cond.code x code maxLocals ret :: ws) room_1) (fun a U => a = #[(.int p1)] ∧ Z.Warmed39 U.vm ∧ U.heap = h0) (fun _ _ _ _ _ => True) (fun _ U o U' => ∃ v L, o = .returned v ∧ Q0 Z p1 b0 b1 b2 b3 b4 b5 s0 s1 s2 s3 s4 s5 v0 v1 v2 v3 v4 v5 cl0 cl1 cl2 cl3 cl4 cl5 vF cs h0 n0 v U'.heap L ∧ FrameEnd U o U' L room_1.cells room_1.slots) := by
  refine MetFree.of_bodySF (plainFor_of_name pn_0) hisR ?_
  intro p e s m args below meth c s₁ Bd hml0 hP hK
  obtain ⟨rfl, hZ, hh⟩ := hP
  have hx := Bd.exec
  have hby := Bd.bytes
  have hml : c.maxLocals = 7 := hml0
  have hown : s.vm.findClass "com/example/rbac_check/rbaccheck/policy/OperatorIsEqualityPinLaw" = some m.cls := findClass_of_methodNamed Bd.named
  have hnm := (name_of_methodNamed Bd.named Bd.method).1
  have X0 : Stand p l e room_1 s m #[(.int p1)] below meth c s₁ [] 0 0 := Stand.of_body Bd
  have e0 : s₁.heap = h0 := by rw [← hh, Bd.state]; rfl
  have N0 := Fr.nil n0
  show Goes p e below (R0 Z p1 b0 b1 b2 b3 b4 b5 s0 s1 s2 s3 s4 s5 v0 v1 v2 v3 v4 v5 cl0 cl1 cl2 cl3 cl4 cl5 vF cs h0 n0 s) (s₁.setTop (entryFrame m #[(.int p1)] maxLocals))
  refine Goes.step (S' := s₁.setTop (mkF m 0 #[.val (.int p1), .unset, .unset, .unset, .unset, .unset, .unset] [])) (fun t k => castTop (ef_0 m p1) k) ?_
  refine Goes.step (S' := s₁.setTop (mkF m 2 #[.val (.int p1), .unset, .unset, .unset, .unset, .unset, .unset] [(.int (6 : Int32))])) (fun t k => XS.bipush X0.here hx rfl (hb hby at_0) k) ?_
  obtain ⟨T18, h18, kA, X18, e18, Ex18, A18, Ov, st18⟩ := newR X0 hx hZ hown (hw _ (List.mem_of_getElem? (i := 0) rfl)) (hw _ (List.mem_of_getElem? (i := 1) rfl)) e0 (g := (mkF m 2 #[.val (.int p1), .unset, .unset, .unset, .unset, .unset, .unset] [(.int (6 : Int32))])) rfl (hb hby at_2) rfl (by decide) (cap := 6) (by decide) (by decide) (by decide) (by decide)
  obtain ⟨a1, g1⟩ : ∃ z, z = h0.size := ⟨_, rfl⟩
  rw [← g1] at A18 st18
  have ga : n0 ≤ a1 := Nat.le_trans Z0 (Nat.le_of_eq g1.symm)
  have W0 : own_arr Z h18 a1 kA [b0, b1, b2, b3, b4, b5] 0 := own_arr_new A18
  have Od0 := O0.ext Ex18
  refine Goes.step (S' := T18.setTop (mkF m 5 #[.val (.int p1), .unset, .unset, .unset, .unset, .unset, .unset] [(.ref a1)])) (fun t k => st18 t k) ?_
  refine Goes.step (S' := T18.setTop (mkF m 6 #[.val (.int p1), .unset, .unset, .unset, .unset, .unset, .unset] [(.ref a1), (.ref a1)])) (fun t k => XS.dup X18.here hx rfl (hb hby at_5) rfl rfl k) ?_
  refine Goes.step (S' := T18.setTop (mkF m 7 #[.val (.int p1), .unset, .unset, .unset, .unset, .unset, .unset] [(.int (0 : Int32)), (.ref a1), (.ref a1)])) (fun t k => XS.iconst X18.here hx rfl (hb hby at_6) k) ?_
  obtain ⟨T19, X19, e19, st19⟩ := getS X18 hx hZ (host := "") hown (hw _ (List.mem_of_getElem? (i := 2) rfl)) Via.refl e18 (S0.ext Od0.2) (g := (mkF m 7 #[.val (.int p1), .unset, .unset, .unset, .unset, .unset, .unset] [(.int (0 : Int32)), (.ref a1), (.ref a1)])) rfl (hb hby at_7)
  refine Goes.step (S' := T19.setTop (mkF m 10 #[.val (.int p1), .unset, .unset, .unset, .unset, .unset, .unset] [(.ref b0), (.int (0 : Int32)), (.ref a1), (.ref a1)])) (fun t k => st19 t k) ?_
  obtain ⟨cl, Ar, qc, Sz, Hs⟩ := W0
  obtain ⟨T20, h20, X20, e20, W'20, st20⟩ := stR X19 hx hZ e19 Ar (j := (0 : Int32)) (by rw [Sz]; decide) rfl (Sto.ofV Ar qc Ov (Ins.self (E0.ext Od0.2))) (g := (mkF m 10 #[.val (.int p1), .unset, .unset, .unset, .unset, .unset, .unset] [(.ref b0), (.int (0 : Int32)), (.ref a1), (.ref a1)])) rfl rfl (hb hby at_10)
  have W1 : own_arr Z h20 a1 kA [b0, b1, b2, b3, b4, b5] 1 := own_arr_put Ar qc Sz Hs W'20 rfl rfl (by decide)
  have Od1 := Od0.wr W'20 ga
  have N20 := Fr.snoc X20 N0 ga
  clear Ar Sz Hs qc
  refine Goes.step (S' := T20.setTop (mkF m 11 #[.val (.int p1), .unset, .unset, .unset, .unset, .unset, .unset] [(.ref a1)])) (fun t k => st20 t k) ?_
  refine Goes.step (S' := T20.setTop (mkF m 12 #[.val (.int p1), .unset, .unset, .unset, .unset, .unset, .unset] [(.ref a1), (.ref a1)])) (fun t k => XS.dup X20.here hx rfl (hb hby at_11) rfl rfl k) ?_
  refine Goes.step (S' := T20.setTop (mkF m 13 #[.val (.int p1), .unset, .unset, .unset, .unset, .unset, .unset] [(.int (1 : Int32)), (.ref a1), (.ref a1)])) (fun t k => XS.iconst X20.here hx rfl (hb hby at_12) k) ?_
  obtain ⟨T21, X21, e21, st21⟩ := getS X20 hx hZ (host := "") hown (hw _ (List.mem_of_getElem? (i := 6) rfl)) Via.refl e20 (S1.ext Od1.2) (g := (mkF m 13 #[.val (.int p1), .unset, .unset, .unset, .unset, .unset, .unset] [(.int (1 : Int32)), (.ref a1), (.ref a1)])) rfl (hb hby at_13)
  refine Goes.step (S' := T21.setTop (mkF m 16 #[.val (.int p1), .unset, .unset, .unset, .unset, .unset, .unset] [(.ref b1), (.int (1 : Int32)), (.ref a1), (.ref a1)])) (fun t k => st21 t k) ?_
  obtain ⟨cl, Ar, qc, Sz, Hs⟩ := W1
  obtain ⟨T22, h22, X22, e22, W'22, st22⟩ := stR X21 hx hZ e21 Ar (j := (1 : Int32)) (by rw [Sz]; decide) rfl (Sto.ofV Ar qc Ov (Ins.self (E1.ext Od1.2))) (g := (mkF m 16 #[.val (.int p1), .unset, .unset, .unset, .unset, .unset, .unset] [(.ref b1), (.int (1 : Int32)), (.ref a1), (.ref a1)])) rfl rfl (hb hby at_16)
  have W2 : own_arr Z h22 a1 kA [b0, b1, b2, b3, b4, b5] 2 := own_arr_put Ar qc Sz Hs W'22 rfl rfl (by decide)
  have Od2 := Od1.wr W'22 ga
  have N22 := Fr.snoc X22 N20 ga
  clear Ar Sz Hs qc
  refine Goes.step (S' := T22.setTop (mkF m 17 #[.val (.int p1), .unset, .unset, .unset, .unset, .unset, .unset] [(.ref a1)])) (fun t k => st22 t k) ?_
  refine Goes.step (S' := T22.setTop (mkF m 18 #[.val (.int p1), .unset, .unset, .unset, .unset, .unset, .unset] [(.ref a1), (.ref a1)])) (fun t k => XS.dup X22.here hx rfl (hb hby at_17) rfl rfl k) ?_
  refine Goes.step (S' := T22.setTop (mkF m 19 #[.val (.int p1), .unset, .unset, .unset, .unset, .unset, .unset] [(.int (2 : Int32)), (.ref a1), (.ref a1)])) (fun t k => XS.iconst X22.here hx rfl (hb hby at_18) k) ?_
  obtain ⟨T23, X23, e23, st23⟩ := getS X22 hx hZ (host := "") hown (hw _ (List.mem_of_getElem? (i := 8) rfl)) Via.refl e22 (S2.ext Od2.2) (g := (mkF m 19 #[.val (.int p1), .unset, .unset, .unset, .unset, .unset, .unset] [(.int (2 : Int32)), (.ref a1), (.ref a1)])) rfl (hb hby at_19)
  refine Goes.step (S' := T23.setTop (mkF m 22 #[.val (.int p1), .unset, .unset, .unset, .unset, .unset, .unset] [(.ref b2), (.int (2 : Int32)), (.ref a1), (.ref a1)])) (fun t k => st23 t k) ?_
  obtain ⟨cl, Ar, qc, Sz, Hs⟩ := W2
  obtain ⟨T24, h24, X24, e24, W'24, st24⟩ := stR X23 hx hZ e23 Ar (j := (2 : Int32)) (by rw [Sz]; decide) rfl (Sto.ofV Ar qc Ov (Ins.self (E2.ext Od2.2))) (g := (mkF m 22 #[.val (.int p1), .unset, .unset, .unset, .unset, .unset, .unset] [(.ref b2), (.int (2 : Int32)), (.ref a1), (.ref a1)])) rfl rfl (hb hby at_22)
  have W3 : own_arr Z h24 a1 kA [b0, b1, b2, b3, b4, b5] 3 := own_arr_put Ar qc Sz Hs W'24 rfl rfl (by decide)
  have Od3 := Od2.wr W'24 ga
  have N24 := Fr.snoc X24 N22 ga
  clear Ar Sz Hs qc
  refine Goes.step (S' := T24.setTop (mkF m 23 #[.val (.int p1), .unset, .unset, .unset, .unset, .unset, .unset] [(.ref a1)])) (fun t k => st24 t k) ?_
  refine Goes.step (S' := T24.setTop (mkF m 24 #[.val (.int p1), .unset, .unset, .unset, .unset, .unset, .unset] [(.ref a1), (.ref a1)])) (fun t k => XS.dup X24.here hx rfl (hb hby at_23) rfl rfl k) ?_
  refine Goes.step (S' := T24.setTop (mkF m 25 #[.val (.int p1), .unset, .unset, .unset, .unset, .unset, .unset] [(.int (3 : Int32)), (.ref a1), (.ref a1)])) (fun t k => XS.iconst X24.here hx rfl (hb hby at_24) k) ?_
  obtain ⟨T25, X25, e25, st25⟩ := getS X24 hx hZ (host := "") hown (hw _ (List.mem_of_getElem? (i := 10) rfl)) Via.refl e24 (S3.ext Od3.2) (g := (mkF m 25 #[.val (.int p1), .unset, .unset, .unset, .unset, .unset, .unset] [(.int (3 : Int32)), (.ref a1), (.ref a1)])) rfl (hb hby at_25)
  refine Goes.step (S' := T25.setTop (mkF m 28 #[.val (.int p1), .unset, .unset, .unset, .unset, .unset, .unset] [(.ref b3), (.int (3 : Int32)), (.ref a1), (.ref a1)])) (fun t k => st25 t k) ?_
  obtain ⟨cl, Ar, qc, Sz, Hs⟩ := W3
  obtain ⟨T26, h26, X26, e26, W'26, st26⟩ := stR X25 hx hZ e25 Ar (j := (3 : Int32)) (by rw [Sz]; decide) rfl (Sto.ofV Ar qc Ov (Ins.self (E3.ext Od3.2))) (g := (mkF m 28 #[.val (.int p1), .unset, .unset, .unset, .unset, .unset, .unset] [(.ref b3), (.int (3 : Int32)), (.ref a1), (.ref a1)])) rfl rfl (hb hby at_28)
  have W4 : own_arr Z h26 a1 kA [b0, b1, b2, b3, b4, b5] 4 := own_arr_put Ar qc Sz Hs W'26 rfl rfl (by decide)
  have Od4 := Od3.wr W'26 ga
  have N26 := Fr.snoc X26 N24 ga
  clear Ar Sz Hs qc
  refine Goes.step (S' := T26.setTop (mkF m 29 #[.val (.int p1), .unset, .unset, .unset, .unset, .unset, .unset] [(.ref a1)])) (fun t k => st26 t k) ?_
  refine Goes.step (S' := T26.setTop (mkF m 30 #[.val (.int p1), .unset, .unset, .unset, .unset, .unset, .unset] [(.ref a1), (.ref a1)])) (fun t k => XS.dup X26.here hx rfl (hb hby at_29) rfl rfl k) ?_
  refine Goes.step (S' := T26.setTop (mkF m 31 #[.val (.int p1), .unset, .unset, .unset, .unset, .unset, .unset] [(.int (4 : Int32)), (.ref a1), (.ref a1)])) (fun t k => XS.iconst X26.here hx rfl (hb hby at_30) k) ?_
  obtain ⟨T27, X27, e27, st27⟩ := getS X26 hx hZ (host := "") hown (hw _ (List.mem_of_getElem? (i := 12) rfl)) Via.refl e26 (S4.ext Od4.2) (g := (mkF m 31 #[.val (.int p1), .unset, .unset, .unset, .unset, .unset, .unset] [(.int (4 : Int32)), (.ref a1), (.ref a1)])) rfl (hb hby at_31)
  refine Goes.step (S' := T27.setTop (mkF m 34 #[.val (.int p1), .unset, .unset, .unset, .unset, .unset, .unset] [(.ref b4), (.int (4 : Int32)), (.ref a1), (.ref a1)])) (fun t k => st27 t k) ?_
  obtain ⟨cl, Ar, qc, Sz, Hs⟩ := W4
  obtain ⟨T28, h28, X28, e28, W'28, st28⟩ := stR X27 hx hZ e27 Ar (j := (4 : Int32)) (by rw [Sz]; decide) rfl (Sto.ofV Ar qc Ov (Ins.self (E4.ext Od4.2))) (g := (mkF m 34 #[.val (.int p1), .unset, .unset, .unset, .unset, .unset, .unset] [(.ref b4), (.int (4 : Int32)), (.ref a1), (.ref a1)])) rfl rfl (hb hby at_34)
  have W5 : own_arr Z h28 a1 kA [b0, b1, b2, b3, b4, b5] 5 := own_arr_put Ar qc Sz Hs W'28 rfl rfl (by decide)
  have Od5 := Od4.wr W'28 ga
  have N28 := Fr.snoc X28 N26 ga
  clear Ar Sz Hs qc
  refine Goes.step (S' := T28.setTop (mkF m 35 #[.val (.int p1), .unset, .unset, .unset, .unset, .unset, .unset] [(.ref a1)])) (fun t k => st28 t k) ?_
  refine Goes.step (S' := T28.setTop (mkF m 36 #[.val (.int p1), .unset, .unset, .unset, .unset, .unset, .unset] [(.ref a1), (.ref a1)])) (fun t k => XS.dup X28.here hx rfl (hb hby at_35) rfl rfl k) ?_
  refine Goes.step (S' := T28.setTop (mkF m 37 #[.val (.int p1), .unset, .unset, .unset, .unset, .unset, .unset] [(.int (5 : Int32)), (.ref a1), (.ref a1)])) (fun t k => XS.iconst X28.here hx rfl (hb hby at_36) k) ?_
  obtain ⟨T29, X29, e29, st29⟩ := getS X28 hx hZ (host := "") hown (hw _ (List.mem_of_getElem? (i := 14) rfl)) Via.refl e28 (S5.ext Od5.2) (g := (mkF m 37 #[.val (.int p1), .unset, .unset, .unset, .unset, .unset, .unset] [(.int (5 : Int32)), (.ref a1), (.ref a1)])) rfl (hb hby at_37)
  refine Goes.step (S' := T29.setTop (mkF m 40 #[.val (.int p1), .unset, .unset, .unset, .unset, .unset, .unset] [(.ref b5), (.int (5 : Int32)), (.ref a1), (.ref a1)])) (fun t k => st29 t k) ?_
  obtain ⟨cl, Ar, qc, Sz, Hs⟩ := W5
  obtain ⟨T30, h30, X30, e30, W'30, st30⟩ := stR X29 hx hZ e29 Ar (j := (5 : Int32)) (by rw [Sz]; decide) rfl (Sto.ofV Ar qc Ov (Ins.self (E5.ext Od5.2))) (g := (mkF m 40 #[.val (.int p1), .unset, .unset, .unset, .unset, .unset, .unset] [(.ref b5), (.int (5 : Int32)), (.ref a1), (.ref a1)])) rfl rfl (hb hby at_40)
  have W6 : own_arr Z h30 a1 kA [b0, b1, b2, b3, b4, b5] 6 := own_arr_put Ar qc Sz Hs W'30 rfl rfl (by decide)
  have Od6 := Od5.wr W'30 ga
  have N30 := Fr.snoc X30 N28 ga
  clear Ar Sz Hs qc
  refine Goes.step (S' := T30.setTop (mkF m 41 #[.val (.int p1), .unset, .unset, .unset, .unset, .unset, .unset] [(.ref a1)])) (fun t k => st30 t k) ?_
  have Zh : n0 ≤ h30.size := by have q := Od6.1; rw [← q]; exact Od6.2.1
  refine Goes.step (S' := T30.setTop (mkF m 42 #[.val (.int p1), .val (.ref a1), .unset, .unset, .unset, .unset, .unset] [])) (fun t k => XS.astoreN X30.here hx rfl (hb hby at_41) rfl rfl (l' := #[.val (.int p1), .val (.ref a1), .unset, .unset, .unset, .unset, .unset]) rfl k) ?_
  refine Goes.step (S' := T30.setTop (mkF m 43 #[.val (.int p1), .val (.ref a1), .unset, .unset, .unset, .unset, .unset] [(.int p1)])) (fun t k => XS.iloadN X30.here hx rfl (hb hby at_42) rfl k) ?_
  refine Goes.step (S' := T30.setTop (mkF m 45 #[.val (.int p1), .val (.ref a1), .unset, .unset, .unset, .unset, .unset] [(.int (2147483647 : Int32)), (.int p1)])) (fun t k => X30.ldcInt hx hown (mvT hZ (hw _ (List.mem_of_getElem? (i := 16) rfl))) (g := (mkF m 43 #[.val (.int p1), .val (.ref a1), .unset, .unset, .unset, .unset, .unset] [(.int p1)])) rfl (hb hby at_43) _ k) ?_
  refine Goes.step (S' := T30.setTop (mkF m 46 #[.val (.int p1), .val (.ref a1), .unset, .unset, .unset, .unset, .unset] [(.int (p1 &&& (2147483647 : Int32)))])) (fun t k => XS.iand X30.here hx rfl (hb hby at_45) rfl k) ?_
  refine Goes.step (S' := T30.setTop (mkF m 48 #[.val (.int p1), .val (.ref a1), .unset, .unset, .unset, .unset, .unset] [(.int (6 : Int32)), (.int (p1 &&& (2147483647 : Int32)))])) (fun t k => XS.bipush X30.here hx rfl (hb hby at_46) k) ?_
  refine Goes.step (S' := T30.setTop (mkF m 49 #[.val (.int p1), .val (.ref a1), .unset, .unset, .unset, .unset, .unset] [(.int ((p1 &&& (2147483647 : Int32)) % (6 : Int32)))])) (fun t k => iremM X30 hx rfl (hb hby at_48) rfl (by decide) k) ?_
  refine Goes.step (S' := T30.setTop (mkF m 50 #[.val (.int p1), .val (.ref a1), .val (.int ((p1 &&& (2147483647 : Int32)) % (6 : Int32))), .unset, .unset, .unset, .unset] [])) (fun t k => XS.istoreN X30.here hx rfl (hb hby at_49) rfl (l' := #[.val (.int p1), .val (.ref a1), .val (.int ((p1 &&& (2147483647 : Int32)) % (6 : Int32))), .unset, .unset, .unset, .unset]) rfl k) ?_
  have K50 : ∀ (kk : Int32) (hk : kk = (0 : Int32) ∨ kk = (1 : Int32) ∨ kk = (2 : Int32) ∨ kk = (3 : Int32) ∨ kk = (4 : Int32) ∨ kk = (5 : Int32)), Goes p e below (R0 Z p1 b0 b1 b2 b3 b4 b5 s0 s1 s2 s3 s4 s5 v0 v1 v2 v3 v4 v5 cl0 cl1 cl2 cl3 cl4 cl5 vF cs h0 n0 s) (T30.setTop (mkF m 50 #[.val (.int p1), .val (.ref a1), .val (.int kk), .unset, .unset, .unset, .unset] [])) := by
    intro kk hk
    obtain ⟨cl, Ar, qc, Sz, Hs⟩ := W6
    rcases hk with rfl | rfl | rfl | rfl | rfl | rfl
    · refine Goes.step (S' := T30.setTop (mkF m 51 #[.val (.int p1), .val (.ref a1), .val (.int (0 : Int32)), .unset, .unset, .unset, .unset] [(.ref a1)])) (fun t k => XS.aloadN X30.here hx rfl (hb hby at_50) rfl rfl k) ?_
      refine Goes.step (S' := T30.setTop (mkF m 52 #[.val (.int p1), .val (.ref a1), .val (.int (0 : Int32)), .unset, .unset, .unset, .unset] [(.int (0 : Int32)), (.ref a1)])) (fun t k => XS.iloadN X30.here hx rfl (hb hby at_51) rfl k) ?_
      refine Goes.step (S' := T30.setTop (mkF m 53 #[.val (.int p1), .val (.ref a1), .val (.int (0 : Int32)), .unset, .unset, .unset, .unset] [(.ref b0)])) (fun t k => X30.aaload hx (j := (0 : Int32)) (v := (.ref b0)) (by rw [e30]; exact Ar.1) (State.isArrayOf_alike hZ.alike Ar.2.1) rfl Ar.2.2 (by rw [Sz]; decide) (Hs 0 (by decide)) (g := (mkF m 52 #[.val (.int p1), .val (.ref a1), .val (.int (0 : Int32)), .unset, .unset, .unset, .unset] [(.int (0 : Int32)), (.ref a1)])) rfl rfl (hb hby at_52) _ k) ?_
      refine Goes.step (S' := T30.setTop (mkF m 54 #[.val (.int p1), .val (.ref a1), .val (.int (0 : Int32)), .val (.ref b0), .unset, .unset, .unset] [])) (fun t k => XS.astoreN X30.here hx rfl (hb hby at_53) rfl rfl (l' := #[.val (.int p1), .val (.ref a1), .val (.int (0 : Int32)), .val (.ref b0), .unset, .unset, .unset]) rfl k) ?_
      refine Goes.step (S' := T30.setTop (mkF m 55 #[.val (.int p1), .val (.ref a1), .val (.int (0 : Int32)), .val (.ref b0), .unset, .unset, .unset] [(.ref b0)])) (fun t k => XS.aloadN X30.here hx rfl (hb hby at_54) rfl rfl k) ?_
      obtain ⟨cq32, kq32, q32a, q32b, q32c⟩ := isOf hZ e30 (E0.ext Od6.2)
      obtain ⟨_, _, ⟨T32, L32, k32, n32⟩, -, X32, ⟨Lc32, hQ32, l32, y32, z32⟩, st32⟩ := X30.virtualBack hx (y := (⟨"com/example/rbac_check/rbaccheck/policy/Condition$Operator", "symbol", "()Ljava/lang/String;"⟩ : MethodName)) (z := (⟨"com/example/rbac_check/rbaccheck/policy/Condition$Operator", "symbol", "()Ljava/lang/String;"⟩ : MethodName)) hown (mvT hZ (hw _ (List.mem_of_getElem? (i := 17) rfl))) (mvT hZ (hw _ (List.mem_of_getElem? (i := 18) rfl))) (notFace_of_selects (args := #[]) (mvT hZ (hw _ (List.mem_of_getElem? (i := 20) rfl)))) (mvT hZ (hw _ (List.mem_of_getElem? (i := 20) rfl))) (mvT hZ (hw _ (List.mem_of_getElem? (i := 19) rfl))) (by decide) (backOf (W := 0) (rmsy l Z a0 hw [] b0 s0 h30 n0 Zh (Y0.ext Od6.2)) hZ (hw _ (List.mem_of_getElem? (i := 21) rfl)) (hw _ (List.mem_of_getElem? (i := 3) rfl)) (by decide) (by decide)) q32a q32c (g := (mkF m 55 #[.val (.int p1), .val (.ref a1), .val (.int (0 : Int32)), .val (.ref b0), .unset, .unset, .unset] [(.ref b0)])) rfl (by rw [hml]; rfl) (Steps.refl _) (argsL := []) (rest := []) (lenOf pd_sy rfl) rfl (by show 2 * 0 + _ ≤ _; exact Nat.le_of_eq rfl) (hb hby at_55) (fun _ _ => ⟨rfl, e30, (by decide : 1 + 0 ≤ _), (by decide : 6 + 0 ≤ _)⟩)
      dsimp only [Pt.U, Pt.locs, Pt.cells, Pt.slots] at X32 l32 y32 z32 st32 hQ32
      subst l32 y32 z32
      obtain ⟨rfl, N32q, e32⟩ := hQ32
      have N32 := Fr.app N30 N32q
      refine Goes.step (S' := T32.setTop (mkF m 58 #[.val (.int p1), .val (.ref a1), .val (.int (0 : Int32)), .val (.ref b0), .unset, .unset, .unset] [(.ref s0)])) (fun t k => st32.trans k) ?_
      refine Goes.step (S' := T32.setTop (mkF m 60 #[.val (.int p1), .val (.ref a1), .val (.int (0 : Int32)), .val (.ref b0), .val (.ref s0), .unset, .unset] [])) (fun t k => XS.astore X32.here hx rfl (hb hby at_58) rfl rfl (l' := #[.val (.int p1), .val (.ref a1), .val (.int (0 : Int32)), .val (.ref b0), .val (.ref s0), .unset, .unset]) rfl k) ?_
      refine Goes.step (S' := T32.setTop (mkF m 62 #[.val (.int p1), .val (.ref a1), .val (.int (0 : Int32)), .val (.ref b0), .val (.ref s0), .unset, .unset] [(.ref s0)])) (fun t k => XS.aload X32.here hx rfl (hb hby at_60) rfl rfl k) ?_
      obtain ⟨cq33, kq33, q33a, q33b, q33c⟩ := isOf hZ e32 (Es0.ext Od6.2)
      obtain ⟨_, _, ⟨T33, L33, k33, n33⟩, -, X33, ⟨Lc33, hQ33, l33, y33, z33⟩, st33⟩ := X32.virtualBack hx (y := (⟨"java/lang/String", "length", "()I"⟩ : MethodName)) (z := (⟨"java/lang/String", "length", "()I"⟩ : MethodName)) hown (mvT hZ (hw _ (List.mem_of_getElem? (i := 24) rfl))) (mvT hZ (hw _ (List.mem_of_getElem? (i := 25) rfl))) (notFace_of_selects (args := #[]) (mvT hZ (hw _ (List.mem_of_getElem? (i := 27) rfl)))) (mvT hZ (hw _ (List.mem_of_getElem? (i := 27) rfl))) (mvT hZ (hw _ (List.mem_of_getElem? (i := 26) rfl))) (by decide) (backOf (W := 0) (rmle l Z a0 hw [] s0 v0 (1 : Int32) cl0 cs h30 n0 Zh (SC.ext Od6.2) hcs (Es0.ext Od6.2) (Fc0.ext Od6.2) (Fv0.ext Od6.2) (Ar0.ext Od6.2) Sz0 (by decide)) hZ (hw _ (List.mem_of_getElem? (i := 29) rfl)) (hw _ (List.mem_of_getElem? (i := 28) rfl)) (by decide) (by decide)) q33a q33c (g := (mkF m 62 #[.val (.int p1), .val (.ref a1), .val (.int (0 : Int32)), .val (.ref b0), .val (.ref s0), .unset, .unset] [(.ref s0)])) rfl (by rw [hml]; rfl) (Steps.refl _) (argsL := []) (rest := []) (lenOf pd_le rfl) rfl (by show 2 * 0 + _ ≤ _; exact Nat.le_of_eq rfl) (hb hby at_62) (fun _ _ => ⟨rfl, e32, (by decide : 1 + 0 ≤ _), (by decide : 6 + 0 ≤ _)⟩)
      dsimp only [Pt.U, Pt.locs, Pt.cells, Pt.slots] at X33 l33 y33 z33 st33 hQ33
      subst l33 y33 z33
      obtain ⟨rfl, N33q, e33⟩ := hQ33
      have N33 := Fr.app N32 N33q
      refine Goes.step (S' := T33.setTop (mkF m 65 #[.val (.int p1), .val (.ref a1), .val (.int (0 : Int32)), .val (.ref b0), .val (.ref s0), .unset, .unset] [(.int (1 : Int32))])) (fun t k => st33.trans k) ?_
      refine Goes.step (S' := T33.setTop (mkF m 68 #[.val (.int p1), .val (.ref a1), .val (.int (0 : Int32)), .val (.ref b0), .val (.ref s0), .unset, .unset] [])) (fun t k => XS.ifNo X33.here hx rfl (hb hby at_65) rfl ((if0 _ _).trans (tlt (by decide : (0 : Int32) < (1 : Int32))).2.2.2) k) ?_
      refine Goes.step (S' := T33.setTop (mkF m 70 #[.val (.int p1), .val (.ref a1), .val (.int (0 : Int32)), .val (.ref b0), .val (.ref s0), .unset, .unset] [(.ref s0)])) (fun t k => XS.aload X33.here hx rfl (hb hby at_68) rfl rfl k) ?_
      refine Goes.step (S' := T33.setTop (mkF m 71 #[.val (.int p1), .val (.ref a1), .val (.int (0 : Int32)), .val (.ref b0), .val (.ref s0), .unset, .unset] [(.int (0 : Int32)), (.ref s0)])) (fun t k => XS.iconst X33.here hx rfl (hb hby at_70) k) ?_
      obtain ⟨cq34, kq34, q34a, q34b, q34c⟩ := isOf hZ e33 (Es0.ext Od6.2)
      obtain ⟨_, _, ⟨T34, L34, k34, n34⟩, -, X34, ⟨Lc34, hQ34, l34, y34, z34⟩, st34⟩ := X33.virtualBack hx (y := (⟨"java/lang/String", "charAt", "(I)C"⟩ : MethodName)) (z := (⟨"java/lang/String", "charAt", "(I)C"⟩ : MethodName)) hown (mvT hZ (hw _ (List.mem_of_getElem? (i := 40) rfl))) (mvT hZ (hw _ (List.mem_of_getElem? (i := 41) rfl))) (notFace_of_selects (args := #[]) (mvT hZ (hw _ (List.mem_of_getElem? (i := 43) rfl)))) (mvT hZ (hw _ (List.mem_of_getElem? (i := 43) rfl))) (mvT hZ (hw _ (List.mem_of_getElem? (i := 42) rfl))) (by decide) (backOf (W := 0) (rmca l Z a0 hw [] s0 (0 : Int32) v0 (1 : Int32) (61 : Int32) cl0 vF cs h30 n0 Zh (SF.ext Od6.2) hF (SC.ext Od6.2) hcs (Es0.ext Od6.2) (Fc0.ext Od6.2) (Fv0.ext Od6.2) (Ar0.ext Od6.2) Sz0 (by decide) (by decide) (by decide) by0) hZ (hw _ (List.mem_of_getElem? (i := 44) rfl)) (hw _ (List.mem_of_getElem? (i := 28) rfl)) (by decide) (by decide)) q34a q34c (g := (mkF m 71 #[.val (.int p1), .val (.ref a1), .val (.int (0 : Int32)), .val (.ref b0), .val (.ref s0), .unset, .unset] [(.int (0 : Int32)), (.ref s0)])) rfl (by rw [hml]; rfl) (Steps.refl _) (argsL := [(.int (0 : Int32))]) (rest := []) (lenOf pd_ca rfl) rfl (by show 2 * 0 + _ ≤ _; exact Nat.le_of_eq rfl) (hb hby at_71) (fun _ _ => ⟨rfl, e33, (by decide : 1 + 0 ≤ _), (by decide : 6 + 0 ≤ _)⟩)
      dsimp only [Pt.U, Pt.locs, Pt.cells, Pt.slots] at X34 l34 y34 z34 st34 hQ34
      subst l34 y34 z34
      obtain ⟨rfl, N34q, e34⟩ := hQ34
      have N34 := Fr.app N33 N34q
      refine Goes.step (S' := T34.setTop (mkF m 74 #[.val (.int p1), .val (.ref a1), .val (.int (0 : Int32)), .val (.ref b0), .val (.ref s0), .unset, .unset] [(.int ((61 : Int32) &&& (255 : Int32)))])) (fun t k => st34.trans k) ?_
      refine Goes.step (S' := T34.setTop (mkF m 76 #[.val (.int p1), .val (.ref a1), .val (.int (0 : Int32)), .val (.ref b0), .val (.ref s0), .unset, .unset] [(.int (60 : Int32)), (.int ((61 : Int32) &&& (255 : Int32)))])) (fun t k => XS.bipush X34.here hx rfl (hb hby at_74) k) ?_
      refine Goes.step (S' := T34.setTop (mkF m 79 #[.val (.int p1), .val (.ref a1), .val (.int (0 : Int32)), .val (.ref b0), .val (.ref s0), .unset, .unset] [])) (fun t k => XS.icmpNo X34.here hx rfl (hb hby at_76) rfl (feq (by decide : ¬ ((61 : Int32) &&& (255 : Int32)) = (60 : Int32))).1 k) ?_
      refine Goes.step (S' := T34.setTop (mkF m 81 #[.val (.int p1), .val (.ref a1), .val (.int (0 : Int32)), .val (.ref b0), .val (.ref s0), .unset, .unset] [(.ref s0)])) (fun t k => XS.aload X34.here hx rfl (hb hby at_79) rfl rfl k) ?_
      refine Goes.step (S' := T34.setTop (mkF m 82 #[.val (.int p1), .val (.ref a1), .val (.int (0 : Int32)), .val (.ref b0), .val (.ref s0), .unset, .unset] [(.int (0 : Int32)), (.ref s0)])) (fun t k => XS.iconst X34.here hx rfl (hb hby at_81) k) ?_
      obtain ⟨cq35, kq35, q35a, q35b, q35c⟩ := isOf hZ e34 (Es0.ext Od6.2)
      obtain ⟨_, _, ⟨T35, L35, k35, n35⟩, -, X35, ⟨Lc35, hQ35, l35, y35, z35⟩, st35⟩ := X34.virtualBack hx (y := (⟨"java/lang/String", "charAt", "(I)C"⟩ : MethodName)) (z := (⟨"java/lang/String", "charAt", "(I)C"⟩ : MethodName)) hown (mvT hZ (hw _ (List.mem_of_getElem? (i := 40) rfl))) (mvT hZ (hw _ (List.mem_of_getElem? (i := 41) rfl))) (notFace_of_selects (args := #[]) (mvT hZ (hw _ (List.mem_of_getElem? (i := 43) rfl)))) (mvT hZ (hw _ (List.mem_of_getElem? (i := 43) rfl))) (mvT hZ (hw _ (List.mem_of_getElem? (i := 42) rfl))) (by decide) (backOf (W := 0) (rmca l Z a0 hw [] s0 (0 : Int32) v0 (1 : Int32) (61 : Int32) cl0 vF cs h30 n0 Zh (SF.ext Od6.2) hF (SC.ext Od6.2) hcs (Es0.ext Od6.2) (Fc0.ext Od6.2) (Fv0.ext Od6.2) (Ar0.ext Od6.2) Sz0 (by decide) (by decide) (by decide) by0) hZ (hw _ (List.mem_of_getElem? (i := 44) rfl)) (hw _ (List.mem_of_getElem? (i := 28) rfl)) (by decide) (by decide)) q35a q35c (g := (mkF m 82 #[.val (.int p1), .val (.ref a1), .val (.int (0 : Int32)), .val (.ref b0), .val (.ref s0), .unset, .unset] [(.int (0 : Int32)), (.ref s0)])) rfl (by rw [hml]; rfl) (Steps.refl _) (argsL := [(.int (0 : Int32))]) (rest := []) (lenOf pd_ca rfl) rfl (by show 2 * 0 + _ ≤ _; exact Nat.le_of_eq rfl) (hb hby at_82) (fun _ _ => ⟨rfl, e34, (by decide : 1 + 0 ≤ _), (by decide : 6 + 0 ≤ _)⟩)
      dsimp only [Pt.U, Pt.locs, Pt.cells, Pt.slots] at X35 l35 y35 z35 st35 hQ35
      subst l35 y35 z35
      obtain ⟨rfl, N35q, e35⟩ := hQ35
      have N35 := Fr.app N34 N35q
      refine Goes.step (S' := T35.setTop (mkF m 85 #[.val (.int p1), .val (.ref a1), .val (.int (0 : Int32)), .val (.ref b0), .val (.ref s0), .unset, .unset] [(.int ((61 : Int32) &&& (255 : Int32)))])) (fun t k => st35.trans k) ?_
      refine Goes.step (S' := T35.setTop (mkF m 87 #[.val (.int p1), .val (.ref a1), .val (.int (0 : Int32)), .val (.ref b0), .val (.ref s0), .unset, .unset] [(.int (62 : Int32)), (.int ((61 : Int32) &&& (255 : Int32)))])) (fun t k => XS.bipush X35.here hx rfl (hb hby at_85) k) ?_
      refine Goes.step (S' := T35.setTop (mkF m 94 #[.val (.int p1), .val (.ref a1), .val (.int (0 : Int32)), .val (.ref b0), .val (.ref s0), .unset, .unset] [])) (fun t k => XS.icmpYes X35.here hx rfl (pc0 := 87) (pc' := 94) rfl (hb hby at_87) rfl (feq (by decide : ¬ ((61 : Int32) &&& (255 : Int32)) = (62 : Int32))).2 (by decide) (by decide) k) ?_
      refine Goes.step (S' := T35.setTop (mkF m 95 #[.val (.int p1), .val (.ref a1), .val (.int (0 : Int32)), .val (.ref b0), .val (.ref s0), .unset, .unset] [(.int (0 : Int32))])) (fun t k => XS.iconst X35.here hx rfl (hb hby at_94) k) ?_
      refine Goes.step (S' := T35.setTop (mkF m 97 #[.val (.int p1), .val (.ref a1), .val (.int (0 : Int32)), .val (.ref b0), .val (.ref s0), .val (.int (0 : Int32)), .unset] [])) (fun t k => XS.istore X35.here hx rfl (hb hby at_95) rfl (l' := #[.val (.int p1), .val (.ref a1), .val (.int (0 : Int32)), .val (.ref b0), .val (.ref s0), .val (.int (0 : Int32)), .unset]) rfl k) ?_
      refine Goes.step (S' := T35.setTop (mkF m 98 #[.val (.int p1), .val (.ref a1), .val (.int (0 : Int32)), .val (.ref b0), .val (.ref s0), .val (.int (0 : Int32)), .unset] [(.int (0 : Int32))])) (fun t k => XS.iloadN X35.here hx rfl (hb hby at_97) rfl k) ?_
      refine Goes.step (S' := T35.setTop (mkF m 99 #[.val (.int p1), .val (.ref a1), .val (.int (0 : Int32)), .val (.ref b0), .val (.ref s0), .val (.int (0 : Int32)), .unset] [(.int (2 : Int32)), (.int (0 : Int32))])) (fun t k => XS.iconst X35.here hx rfl (hb hby at_98) k) ?_
      refine Goes.step (S' := T35.setTop (mkF m 102 #[.val (.int p1), .val (.ref a1), .val (.int (0 : Int32)), .val (.ref b0), .val (.ref s0), .val (.int (0 : Int32)), .unset] [])) (fun t k => XS.icmpNo X35.here hx rfl (hb hby at_99) rfl (tlt (by decide : (0 : Int32) < (2 : Int32))).2.1 k) ?_
      refine Goes.step (S' := T35.setTop (mkF m 103 #[.val (.int p1), .val (.ref a1), .val (.int (0 : Int32)), .val (.ref b0), .val (.ref s0), .val (.int (0 : Int32)), .unset] [(.int (1 : Int32))])) (fun t k => XS.iconst X35.here hx rfl (hb hby at_102) k) ?_
      refine Goes.step (S' := T35.setTop (mkF m 107 #[.val (.int p1), .val (.ref a1), .val (.int (0 : Int32)), .val (.ref b0), .val (.ref s0), .val (.int (0 : Int32)), .unset] [(.int (1 : Int32))])) (fun t k => XS.goto X35.here hx rfl (pc0 := 103) (pc' := 107) rfl (hb hby at_103) (by decide) (by decide) k) ?_
      refine Goes.step (S' := T35.setTop (mkF m 109 #[.val (.int p1), .val (.ref a1), .val (.int (0 : Int32)), .val (.ref b0), .val (.ref s0), .val (.int (0 : Int32)), .val (.int (1 : Int32))] [])) (fun t k => XS.istore X35.here hx rfl (hb hby at_107) rfl (l' := #[.val (.int p1), .val (.ref a1), .val (.int (0 : Int32)), .val (.ref b0), .val (.ref s0), .val (.int (0 : Int32)), .val (.int (1 : Int32))]) rfl k) ?_
      refine Goes.step (S' := T35.setTop (mkF m 110 #[.val (.int p1), .val (.ref a1), .val (.int (0 : Int32)), .val (.ref b0), .val (.ref s0), .val (.int (0 : Int32)), .val (.int (1 : Int32))] [(.ref b0)])) (fun t k => XS.aloadN X35.here hx rfl (hb hby at_109) rfl rfl k) ?_
      obtain ⟨cq36, kq36, q36a, q36b, q36c⟩ := isOf hZ e35 (E0.ext Od6.2)
      obtain ⟨_, _, ⟨T36, L36, k36, n36⟩, -, X36, ⟨Lc36, hQ36, l36, y36, z36⟩, st36⟩ := X35.virtualBack hx (y := (⟨"com/example/rbac_check/rbaccheck/policy/Condition$Operator", "isEquality", "()Z"⟩ : MethodName)) (z := (⟨"com/example/rbac_check/rbaccheck/policy/Condition$Operator", "isEquality", "()Z"⟩ : MethodName)) hown (mvT hZ (hw _ (List.mem_of_getElem? (i := 62) rfl))) (mvT hZ (hw _ (List.mem_of_getElem? (i := 63) rfl))) (notFace_of_selects (args := #[]) (mvT hZ (hw _ (List.mem_of_getElem? (i := 65) rfl)))) (mvT hZ (hw _ (List.mem_of_getElem? (i := 65) rfl))) (mvT hZ (hw _ (List.mem_of_getElem? (i := 64) rfl))) (by decide) (backOf (W := 0) (rmeq l Z a0 hw [] b0 b0 b1 h30 n0 Zh (S0.ext Od6.2) (S1.ext Od6.2)) hZ (hw _ (List.mem_of_getElem? (i := 66) rfl)) (hw _ (List.mem_of_getElem? (i := 3) rfl)) (by decide) (by decide)) q36a q36c (g := (mkF m 110 #[.val (.int p1), .val (.ref a1), .val (.int (0 : Int32)), .val (.ref b0), .val (.ref s0), .val (.int (0 : Int32)), .val (.int (1 : Int32))] [(.ref b0)])) rfl (by rw [hml]; rfl) (Steps.refl _) (argsL := []) (rest := []) (lenOf pd_eq rfl) rfl (by show 2 * 0 + _ ≤ _; exact Nat.le_of_eq rfl) (hb hby at_110) (fun _ _ => ⟨rfl, e35, (by decide : 1 + 0 ≤ _), (by decide : 6 + 0 ≤ _)⟩)
      dsimp only [Pt.U, Pt.locs, Pt.cells, Pt.slots] at X36 l36 y36 z36 st36 hQ36
      subst l36 y36 z36
      obtain ⟨rfl, N36q, e36⟩ := hQ36
      have N36 := Fr.app N35 N36q
      refine Goes.step (S' := T36.setTop (mkF m 113 #[.val (.int p1), .val (.ref a1), .val (.int (0 : Int32)), .val (.ref b0), .val (.ref s0), .val (.int (0 : Int32)), .val (.int (1 : Int32))] [(.int (own_isf b0 b0 b1))])) (fun t k => st36.trans k) ?_
      rw [own_isf_a (rfl : b0 = b0)]
      show Goes p e below (R0 Z p1 b0 b1 b2 b3 b4 b5 s0 s1 s2 s3 s4 s5 v0 v1 v2 v3 v4 v5 cl0 cl1 cl2 cl3 cl4 cl5 vF cs h0 n0 s) (T36.setTop (mkF m 113 #[.val (.int p1), .val (.ref a1), .val (.int (0 : Int32)), .val (.ref b0), .val (.ref s0), .val (.int (0 : Int32)), .val (.int (1 : Int32))] [(.int (1 : Int32))]))
      refine Goes.step (S' := T36.setTop (mkF m 115 #[.val (.int p1), .val (.ref a1), .val (.int (0 : Int32)), .val (.ref b0), .val (.ref s0), .val (.int (0 : Int32)), .val (.int (1 : Int32))] [(.int (1 : Int32)), (.int (1 : Int32))])) (fun t k => XS.iload X36.here hx rfl (hb hby at_113) rfl k) ?_
      refine Goes.step (S' := T36.setTop (mkF m 118 #[.val (.int p1), .val (.ref a1), .val (.int (0 : Int32)), .val (.ref b0), .val (.ref s0), .val (.int (0 : Int32)), .val (.int (1 : Int32))] [])) (fun t k => XS.icmpNo X36.here hx rfl (hb hby at_115) rfl (teq rfl).2 k) ?_
      refine Goes.step (S' := T36.setTop (mkF m 120 #[.val (.int p1), .val (.ref a1), .val (.int (0 : Int32)), .val (.ref b0), .val (.ref s0), .val (.int (0 : Int32)), .val (.int (1 : Int32))] [(.int (1 : Int32))])) (fun t k => XS.iload X36.here hx rfl (hb hby at_118) rfl k) ?_
      refine Goes.step (S' := T36.setTop (mkF m 122 #[.val (.int p1), .val (.ref a1), .val (.int (0 : Int32)), .val (.ref b0), .val (.ref s0), .val (.int (0 : Int32)), .val (.int (1 : Int32))] [(.int (0 : Int32)), (.int (1 : Int32))])) (fun t k => XS.iload X36.here hx rfl (hb hby at_120) rfl k) ?_
      refine Goes.step (S' := T36.setTop (mkF m 125 #[.val (.int p1), .val (.ref a1), .val (.int (0 : Int32)), .val (.ref b0), .val (.ref s0), .val (.int (0 : Int32)), .val (.int (1 : Int32))] [(.int (1 : Int32))])) (fun t k => XS.ifNo X36.here hx rfl (hb hby at_122) rfl ((if0 _ _).trans (teq rfl).2) k) ?_
      refine Goes.step (S' := T36.setTop (mkF m 126 #[.val (.int p1), .val (.ref a1), .val (.int (0 : Int32)), .val (.ref b0), .val (.ref s0), .val (.int (0 : Int32)), .val (.int (1 : Int32))] [(.int (1 : Int32)), (.int (1 : Int32))])) (fun t k => XS.iconst X36.here hx rfl (hb hby at_125) k) ?_
      refine Goes.step (S' := T36.setTop (mkF m 130 #[.val (.int p1), .val (.ref a1), .val (.int (0 : Int32)), .val (.ref b0), .val (.ref s0), .val (.int (0 : Int32)), .val (.int (1 : Int32))] [(.int (1 : Int32)), (.int (1 : Int32))])) (fun t k => XS.goto X36.here hx rfl (pc0 := 126) (pc' := 130) rfl (hb hby at_126) (by decide) (by decide) k) ?_
      refine Goes.step (S' := T36.setTop (mkF m 133 #[.val (.int p1), .val (.ref a1), .val (.int (0 : Int32)), .val (.ref b0), .val (.ref s0), .val (.int (0 : Int32)), .val (.int (1 : Int32))] [])) (fun t k => XS.icmpNo X36.here hx rfl (hb hby at_130) rfl (teq rfl).2 k) ?_
      refine Goes.step (S' := T36.setTop (mkF m 134 #[.val (.int p1), .val (.ref a1), .val (.int (0 : Int32)), .val (.ref b0), .val (.ref s0), .val (.int (0 : Int32)), .val (.int (1 : Int32))] [(.int (1 : Int32))])) (fun t k => XS.iconst X36.here hx rfl (hb hby at_133) k) ?_
      refine Goes.step (S' := T36.setTop (mkF m 138 #[.val (.int p1), .val (.ref a1), .val (.int (0 : Int32)), .val (.ref b0), .val (.ref s0), .val (.int (0 : Int32)), .val (.int (1 : Int32))] [(.int (1 : Int32))])) (fun t k => XS.goto X36.here hx rfl (pc0 := 134) (pc' := 138) rfl (hb hby at_134) (by decide) (by decide) k) ?_
      obtain ⟨fs, hr, hrun, hended, hW, hsame⟩ := X36.leave (v := some (.int (1 : Int32))) (fun h => by rw [Bd.returns] at h; cases h)
      exact ⟨_, _, retN X36 hx (t := .boolean) Bd.returns (by simp) (hb hby at_138) hr, hrun, hended, _, _, rfl, ⟨rfl, N36⟩, ⟨_, rfl⟩, hW, hsame.mono (by decide) (by decide)⟩
    · refine Goes.step (S' := T30.setTop (mkF m 51 #[.val (.int p1), .val (.ref a1), .val (.int (1 : Int32)), .unset, .unset, .unset, .unset] [(.ref a1)])) (fun t k => XS.aloadN X30.here hx rfl (hb hby at_50) rfl rfl k) ?_
      refine Goes.step (S' := T30.setTop (mkF m 52 #[.val (.int p1), .val (.ref a1), .val (.int (1 : Int32)), .unset, .unset, .unset, .unset] [(.int (1 : Int32)), (.ref a1)])) (fun t k => XS.iloadN X30.here hx rfl (hb hby at_51) rfl k) ?_
      refine Goes.step (S' := T30.setTop (mkF m 53 #[.val (.int p1), .val (.ref a1), .val (.int (1 : Int32)), .unset, .unset, .unset, .unset] [(.ref b1)])) (fun t k => X30.aaload hx (j := (1 : Int32)) (v := (.ref b1)) (by rw [e30]; exact Ar.1) (State.isArrayOf_alike hZ.alike Ar.2.1) rfl Ar.2.2 (by rw [Sz]; decide) (Hs 1 (by decide)) (g := (mkF m 52 #[.val (.int p1), .val (.ref a1), .val (.int (1 : Int32)), .unset, .unset, .unset, .unset] [(.int (1 : Int32)), (.ref a1)])) rfl rfl (hb hby at_52) _ k) ?_
      refine Goes.step (S' := T30.setTop (mkF m 54 #[.val (.int p1), .val (.ref a1), .val (.int (1 : Int32)), .val (.ref b1), .unset, .unset, .unset] [])) (fun t k => XS.astoreN X30.here hx rfl (hb hby at_53) rfl rfl (l' := #[.val (.int p1), .val (.ref a1), .val (.int (1 : Int32)), .val (.ref b1), .unset, .unset, .unset]) rfl k) ?_
      refine Goes.step (S' := T30.setTop (mkF m 55 #[.val (.int p1), .val (.ref a1), .val (.int (1 : Int32)), .val (.ref b1), .unset, .unset, .unset] [(.ref b1)])) (fun t k => XS.aloadN X30.here hx rfl (hb hby at_54) rfl rfl k) ?_
      obtain ⟨cq37, kq37, q37a, q37b, q37c⟩ := isOf hZ e30 (E1.ext Od6.2)
      obtain ⟨_, _, ⟨T37, L37, k37, n37⟩, -, X37, ⟨Lc37, hQ37, l37, y37, z37⟩, st37⟩ := X30.virtualBack hx (y := (⟨"com/example/rbac_check/rbaccheck/policy/Condition$Operator", "symbol", "()Ljava/lang/String;"⟩ : MethodName)) (z := (⟨"com/example/rbac_check/rbaccheck/policy/Condition$Operator", "symbol", "()Ljava/lang/String;"⟩ : MethodName)) hown (mvT hZ (hw _ (List.mem_of_getElem? (i := 17) rfl))) (mvT hZ (hw _ (List.mem_of_getElem? (i := 18) rfl))) (notFace_of_selects (args := #[]) (mvT hZ (hw _ (List.mem_of_getElem? (i := 20) rfl)))) (mvT hZ (hw _ (List.mem_of_getElem? (i := 20) rfl))) (mvT hZ (hw _ (List.mem_of_getElem? (i := 19) rfl))) (by decide) (backOf (W := 0) (rmsy l Z a0 hw [] b1 s1 h30 n0 Zh (Y1.ext Od6.2)) hZ (hw _ (List.mem_of_getElem? (i := 21) rfl)) (hw _ (List.mem_of_getElem? (i := 3) rfl)) (by decide) (by decide)) q37a q37c (g := (mkF m 55 #[.val (.int p1), .val (.ref a1), .val (.int (1 : Int32)), .val (.ref b1), .unset, .unset, .unset] [(.ref b1)])) rfl (by rw [hml]; rfl) (Steps.refl _) (argsL := []) (rest := []) (lenOf pd_sy rfl) rfl (by show 2 * 0 + _ ≤ _; exact Nat.le_of_eq rfl) (hb hby at_55) (fun _ _ => ⟨rfl, e30, (by decide : 1 + 0 ≤ _), (by decide : 6 + 0 ≤ _)⟩)
      dsimp only [Pt.U, Pt.locs, Pt.cells, Pt.slots] at X37 l37 y37 z37 st37 hQ37
      subst l37 y37 z37
      obtain ⟨rfl, N37q, e37⟩ := hQ37
      have N37 := Fr.app N30 N37q
      refine Goes.step (S' := T37.setTop (mkF m 58 #[.val (.int p1), .val (.ref a1), .val (.int (1 : Int32)), .val (.ref b1), .unset, .unset, .unset] [(.ref s1)])) (fun t k => st37.trans k) ?_
      refine Goes.step (S' := T37.setTop (mkF m 60 #[.val (.int p1), .val (.ref a1), .val (.int (1 : Int32)), .val (.ref b1), .val (.ref s1), .unset, .unset] [])) (fun t k => XS.astore X37.here hx rfl (hb hby at_58) rfl rfl (l' := #[.val (.int p1), .val (.ref a1), .val (.int (1 : Int32)), .val (.ref b1), .val (.ref s1), .unset, .unset]) rfl k) ?_
      refine Goes.step (S' := T37.setTop (mkF m 62 #[.val (.int p1), .val (.ref a1), .val (.int (1 : Int32)), .val (.ref b1), .val (.ref s1), .unset, .unset] [(.ref s1)])) (fun t k => XS.aload X37.here hx rfl (hb hby at_60) rfl rfl k) ?_
      obtain ⟨cq38, kq38, q38a, q38b, q38c⟩ := isOf hZ e37 (Es1.ext Od6.2)
      obtain ⟨_, _, ⟨T38, L38, k38, n38⟩, -, X38, ⟨Lc38, hQ38, l38, y38, z38⟩, st38⟩ := X37.virtualBack hx (y := (⟨"java/lang/String", "length", "()I"⟩ : MethodName)) (z := (⟨"java/lang/String", "length", "()I"⟩ : MethodName)) hown (mvT hZ (hw _ (List.mem_of_getElem? (i := 24) rfl))) (mvT hZ (hw _ (List.mem_of_getElem? (i := 25) rfl))) (notFace_of_selects (args := #[]) (mvT hZ (hw _ (List.mem_of_getElem? (i := 27) rfl)))) (mvT hZ (hw _ (List.mem_of_getElem? (i := 27) rfl))) (mvT hZ (hw _ (List.mem_of_getElem? (i := 26) rfl))) (by decide) (backOf (W := 0) (rmle l Z a0 hw [] s1 v1 (2 : Int32) cl1 cs h30 n0 Zh (SC.ext Od6.2) hcs (Es1.ext Od6.2) (Fc1.ext Od6.2) (Fv1.ext Od6.2) (Ar1.ext Od6.2) Sz1 (by decide)) hZ (hw _ (List.mem_of_getElem? (i := 29) rfl)) (hw _ (List.mem_of_getElem? (i := 28) rfl)) (by decide) (by decide)) q38a q38c (g := (mkF m 62 #[.val (.int p1), .val (.ref a1), .val (.int (1 : Int32)), .val (.ref b1), .val (.ref s1), .unset, .unset] [(.ref s1)])) rfl (by rw [hml]; rfl) (Steps.refl _) (argsL := []) (rest := []) (lenOf pd_le rfl) rfl (by show 2 * 0 + _ ≤ _; exact Nat.le_of_eq rfl) (hb hby at_62) (fun _ _ => ⟨rfl, e37, (by decide : 1 + 0 ≤ _), (by decide : 6 + 0 ≤ _)⟩)
      dsimp only [Pt.U, Pt.locs, Pt.cells, Pt.slots] at X38 l38 y38 z38 st38 hQ38
      subst l38 y38 z38
      obtain ⟨rfl, N38q, e38⟩ := hQ38
      have N38 := Fr.app N37 N38q
      refine Goes.step (S' := T38.setTop (mkF m 65 #[.val (.int p1), .val (.ref a1), .val (.int (1 : Int32)), .val (.ref b1), .val (.ref s1), .unset, .unset] [(.int (2 : Int32))])) (fun t k => st38.trans k) ?_
      refine Goes.step (S' := T38.setTop (mkF m 68 #[.val (.int p1), .val (.ref a1), .val (.int (1 : Int32)), .val (.ref b1), .val (.ref s1), .unset, .unset] [])) (fun t k => XS.ifNo X38.here hx rfl (hb hby at_65) rfl ((if0 _ _).trans (tlt (by decide : (0 : Int32) < (2 : Int32))).2.2.2) k) ?_
      refine Goes.step (S' := T38.setTop (mkF m 70 #[.val (.int p1), .val (.ref a1), .val (.int (1 : Int32)), .val (.ref b1), .val (.ref s1), .unset, .unset] [(.ref s1)])) (fun t k => XS.aload X38.here hx rfl (hb hby at_68) rfl rfl k) ?_
      refine Goes.step (S' := T38.setTop (mkF m 71 #[.val (.int p1), .val (.ref a1), .val (.int (1 : Int32)), .val (.ref b1), .val (.ref s1), .unset, .unset] [(.int (0 : Int32)), (.ref s1)])) (fun t k => XS.iconst X38.here hx rfl (hb hby at_70) k) ?_
      obtain ⟨cq39, kq39, q39a, q39b, q39c⟩ := isOf hZ e38 (Es1.ext Od6.2)
      obtain ⟨_, _, ⟨T39, L39, k39, n39⟩, -, X39, ⟨Lc39, hQ39, l39, y39, z39⟩, st39⟩ := X38.virtualBack hx (y := (⟨"java/lang/String", "charAt", "(I)C"⟩ : MethodName)) (z := (⟨"java/lang/String", "charAt", "(I)C"⟩ : MethodName)) hown (mvT hZ (hw _ (List.mem_of_getElem? (i := 40) rfl))) (mvT hZ (hw _ (List.mem_of_getElem? (i := 41) rfl))) (notFace_of_selects (args := #[]) (mvT hZ (hw _ (List.mem_of_getElem? (i := 43) rfl)))) (mvT hZ (hw _ (List.mem_of_getElem? (i := 43) rfl))) (mvT hZ (hw _ (List.mem_of_getElem? (i := 42) rfl))) (by decide) (backOf (W := 0) (rmca l Z a0 hw [] s1 (0 : Int32) v1 (2 : Int32) (33 : Int32) cl1 vF cs h30 n0 Zh (SF.ext Od6.2) hF (SC.ext Od6.2) hcs (Es1.ext Od6.2) (Fc1.ext Od6.2) (Fv1.ext Od6.2) (Ar1.ext Od6.2) Sz1 (by decide) (by decide) (by decide) by1) hZ (hw _ (List.mem_of_getElem? (i := 44) rfl)) (hw _ (List.mem_of_getElem? (i := 28) rfl)) (by decide) (by decide)) q39a q39c (g := (mkF m 71 #[.val (.int p1), .val (.ref a1), .val (.int (1 : Int32)), .val (.ref b1), .val (.ref s1), .unset, .unset] [(.int (0 : Int32)), (.ref s1)])) rfl (by rw [hml]; rfl) (Steps.refl _) (argsL := [(.int (0 : Int32))]) (rest := []) (lenOf pd_ca rfl) rfl (by show 2 * 0 + _ ≤ _; exact Nat.le_of_eq rfl) (hb hby at_71) (fun _ _ => ⟨rfl, e38, (by decide : 1 + 0 ≤ _), (by decide : 6 + 0 ≤ _)⟩)
      dsimp only [Pt.U, Pt.locs, Pt.cells, Pt.slots] at X39 l39 y39 z39 st39 hQ39
      subst l39 y39 z39
      obtain ⟨rfl, N39q, e39⟩ := hQ39
      have N39 := Fr.app N38 N39q
      refine Goes.step (S' := T39.setTop (mkF m 74 #[.val (.int p1), .val (.ref a1), .val (.int (1 : Int32)), .val (.ref b1), .val (.ref s1), .unset, .unset] [(.int ((33 : Int32) &&& (255 : Int32)))])) (fun t k => st39.trans k) ?_
      refine Goes.step (S' := T39.setTop (mkF m 76 #[.val (.int p1), .val (.ref a1), .val (.int (1 : Int32)), .val (.ref b1), .val (.ref s1), .unset, .unset] [(.int (60 : Int32)), (.int ((33 : Int32) &&& (255 : Int32)))])) (fun t k => XS.bipush X39.here hx rfl (hb hby at_74) k) ?_
      refine Goes.step (S' := T39.setTop (mkF m 79 #[.val (.int p1), .val (.ref a1), .val (.int (1 : Int32)), .val (.ref b1), .val (.ref s1), .unset, .unset] [])) (fun t k => XS.icmpNo X39.here hx rfl (hb hby at_76) rfl (feq (by decide : ¬ ((33 : Int32) &&& (255 : Int32)) = (60 : Int32))).1 k) ?_
      refine Goes.step (S' := T39.setTop (mkF m 81 #[.val (.int p1), .val (.ref a1), .val (.int (1 : Int32)), .val (.ref b1), .val (.ref s1), .unset, .unset] [(.ref s1)])) (fun t k => XS.aload X39.here hx rfl (hb hby at_79) rfl rfl k) ?_
      refine Goes.step (S' := T39.setTop (mkF m 82 #[.val (.int p1), .val (.ref a1), .val (.int (1 : Int32)), .val (.ref b1), .val (.ref s1), .unset, .unset] [(.int (0 : Int32)), (.ref s1)])) (fun t k => XS.iconst X39.here hx rfl (hb hby at_81) k) ?_
      obtain ⟨cq40, kq40, q40a, q40b, q40c⟩ := isOf hZ e39 (Es1.ext Od6.2)
      obtain ⟨_, _, ⟨T40, L40, k40, n40⟩, -, X40, ⟨Lc40, hQ40, l40, y40, z40⟩, st40⟩ := X39.virtualBack hx (y := (⟨"java/lang/String", "charAt", "(I)C"⟩ : MethodName)) (z := (⟨"java/lang/String", "charAt", "(I)C"⟩ : MethodName)) hown (mvT hZ (hw _ (List.mem_of_getElem? (i := 40) rfl))) (mvT hZ (hw _ (List.mem_of_getElem? (i := 41) rfl))) (notFace_of_selects (args := #[]) (mvT hZ (hw _ (List.mem_of_getElem? (i := 43) rfl)))) (mvT hZ (hw _ (List.mem_of_getElem? (i := 43) rfl))) (mvT hZ (hw _ (List.mem_of_getElem? (i := 42) rfl))) (by decide) (backOf (W := 0) (rmca l Z a0 hw [] s1 (0 : Int32) v1 (2 : Int32) (33 : Int32) cl1 vF cs h30 n0 Zh (SF.ext Od6.2) hF (SC.ext Od6.2) hcs (Es1.ext Od6.2) (Fc1.ext Od6.2) (Fv1.ext Od6.2) (Ar1.ext Od6.2) Sz1 (by decide) (by decide) (by decide) by1) hZ (hw _ (List.mem_of_getElem? (i := 44) rfl)) (hw _ (List.mem_of_getElem? (i := 28) rfl)) (by decide) (by decide)) q40a q40c (g := (mkF m 82 #[.val (.int p1), .val (.ref a1), .val (.int (1 : Int32)), .val (.ref b1), .val (.ref s1), .unset, .unset] [(.int (0 : Int32)), (.ref s1)])) rfl (by rw [hml]; rfl) (Steps.refl _) (argsL := [(.int (0 : Int32))]) (rest := []) (lenOf pd_ca rfl) rfl (by show 2 * 0 + _ ≤ _; exact Nat.le_of_eq rfl) (hb hby at_82) (fun _ _ => ⟨rfl, e39, (by decide : 1 + 0 ≤ _), (by decide : 6 + 0 ≤ _)⟩)
      dsimp only [Pt.U, Pt.locs, Pt.cells, Pt.slots] at X40 l40 y40 z40 st40 hQ40
      subst l40 y40 z40
      obtain ⟨rfl, N40q, e40⟩ := hQ40
      have N40 := Fr.app N39 N40q
      refine Goes.step (S' := T40.setTop (mkF m 85 #[.val (.int p1), .val (.ref a1), .val (.int (1 : Int32)), .val (.ref b1), .val (.ref s1), .unset, .unset] [(.int ((33 : Int32) &&& (255 : Int32)))])) (fun t k => st40.trans k) ?_
      refine Goes.step (S' := T40.setTop (mkF m 87 #[.val (.int p1), .val (.ref a1), .val (.int (1 : Int32)), .val (.ref b1), .val (.ref s1), .unset, .unset] [(.int (62 : Int32)), (.int ((33 : Int32) &&& (255 : Int32)))])) (fun t k => XS.bipush X40.here hx rfl (hb hby at_85) k) ?_
      refine Goes.step (S' := T40.setTop (mkF m 94 #[.val (.int p1), .val (.ref a1), .val (.int (1 : Int32)), .val (.ref b1), .val (.ref s1), .unset, .unset] [])) (fun t k => XS.icmpYes X40.here hx rfl (pc0 := 87) (pc' := 94) rfl (hb hby at_87) rfl (feq (by decide : ¬ ((33 : Int32) &&& (255 : Int32)) = (62 : Int32))).2 (by decide) (by decide) k) ?_
      refine Goes.step (S' := T40.setTop (mkF m 95 #[.val (.int p1), .val (.ref a1), .val (.int (1 : Int32)), .val (.ref b1), .val (.ref s1), .unset, .unset] [(.int (0 : Int32))])) (fun t k => XS.iconst X40.here hx rfl (hb hby at_94) k) ?_
      refine Goes.step (S' := T40.setTop (mkF m 97 #[.val (.int p1), .val (.ref a1), .val (.int (1 : Int32)), .val (.ref b1), .val (.ref s1), .val (.int (0 : Int32)), .unset] [])) (fun t k => XS.istore X40.here hx rfl (hb hby at_95) rfl (l' := #[.val (.int p1), .val (.ref a1), .val (.int (1 : Int32)), .val (.ref b1), .val (.ref s1), .val (.int (0 : Int32)), .unset]) rfl k) ?_
      refine Goes.step (S' := T40.setTop (mkF m 98 #[.val (.int p1), .val (.ref a1), .val (.int (1 : Int32)), .val (.ref b1), .val (.ref s1), .val (.int (0 : Int32)), .unset] [(.int (1 : Int32))])) (fun t k => XS.iloadN X40.here hx rfl (hb hby at_97) rfl k) ?_
      refine Goes.step (S' := T40.setTop (mkF m 99 #[.val (.int p1), .val (.ref a1), .val (.int (1 : Int32)), .val (.ref b1), .val (.ref s1), .val (.int (0 : Int32)), .unset] [(.int (2 : Int32)), (.int (1 : Int32))])) (fun t k => XS.iconst X40.here hx rfl (hb hby at_98) k) ?_
      refine Goes.step (S' := T40.setTop (mkF m 102 #[.val (.int p1), .val (.ref a1), .val (.int (1 : Int32)), .val (.ref b1), .val (.ref s1), .val (.int (0 : Int32)), .unset] [])) (fun t k => XS.icmpNo X40.here hx rfl (hb hby at_99) rfl (tlt (by decide : (1 : Int32) < (2 : Int32))).2.1 k) ?_
      refine Goes.step (S' := T40.setTop (mkF m 103 #[.val (.int p1), .val (.ref a1), .val (.int (1 : Int32)), .val (.ref b1), .val (.ref s1), .val (.int (0 : Int32)), .unset] [(.int (1 : Int32))])) (fun t k => XS.iconst X40.here hx rfl (hb hby at_102) k) ?_
      refine Goes.step (S' := T40.setTop (mkF m 107 #[.val (.int p1), .val (.ref a1), .val (.int (1 : Int32)), .val (.ref b1), .val (.ref s1), .val (.int (0 : Int32)), .unset] [(.int (1 : Int32))])) (fun t k => XS.goto X40.here hx rfl (pc0 := 103) (pc' := 107) rfl (hb hby at_103) (by decide) (by decide) k) ?_
      refine Goes.step (S' := T40.setTop (mkF m 109 #[.val (.int p1), .val (.ref a1), .val (.int (1 : Int32)), .val (.ref b1), .val (.ref s1), .val (.int (0 : Int32)), .val (.int (1 : Int32))] [])) (fun t k => XS.istore X40.here hx rfl (hb hby at_107) rfl (l' := #[.val (.int p1), .val (.ref a1), .val (.int (1 : Int32)), .val (.ref b1), .val (.ref s1), .val (.int (0 : Int32)), .val (.int (1 : Int32))]) rfl k) ?_
      refine Goes.step (S' := T40.setTop (mkF m 110 #[.val (.int p1), .val (.ref a1), .val (.int (1 : Int32)), .val (.ref b1), .val (.ref s1), .val (.int (0 : Int32)), .val (.int (1 : Int32))] [(.ref b1)])) (fun t k => XS.aloadN X40.here hx rfl (hb hby at_109) rfl rfl k) ?_
      obtain ⟨cq41, kq41, q41a, q41b, q41c⟩ := isOf hZ e40 (E1.ext Od6.2)
      obtain ⟨_, _, ⟨T41, L41, k41, n41⟩, -, X41, ⟨Lc41, hQ41, l41, y41, z41⟩, st41⟩ := X40.virtualBack hx (y := (⟨"com/example/rbac_check/rbaccheck/policy/Condition$Operator", "isEquality", "()Z"⟩ : MethodName)) (z := (⟨"com/example/rbac_check/rbaccheck/policy/Condition$Operator", "isEquality", "()Z"⟩ : MethodName)) hown (mvT hZ (hw _ (List.mem_of_getElem? (i := 62) rfl))) (mvT hZ (hw _ (List.mem_of_getElem? (i := 63) rfl))) (notFace_of_selects (args := #[]) (mvT hZ (hw _ (List.mem_of_getElem? (i := 65) rfl)))) (mvT hZ (hw _ (List.mem_of_getElem? (i := 65) rfl))) (mvT hZ (hw _ (List.mem_of_getElem? (i := 64) rfl))) (by decide) (backOf (W := 0) (rmeq l Z a0 hw [] b1 b0 b1 h30 n0 Zh (S0.ext Od6.2) (S1.ext Od6.2)) hZ (hw _ (List.mem_of_getElem? (i := 66) rfl)) (hw _ (List.mem_of_getElem? (i := 3) rfl)) (by decide) (by decide)) q41a q41c (g := (mkF m 110 #[.val (.int p1), .val (.ref a1), .val (.int (1 : Int32)), .val (.ref b1), .val (.ref s1), .val (.int (0 : Int32)), .val (.int (1 : Int32))] [(.ref b1)])) rfl (by rw [hml]; rfl) (Steps.refl _) (argsL := []) (rest := []) (lenOf pd_eq rfl) rfl (by show 2 * 0 + _ ≤ _; exact Nat.le_of_eq rfl) (hb hby at_110) (fun _ _ => ⟨rfl, e40, (by decide : 1 + 0 ≤ _), (by decide : 6 + 0 ≤ _)⟩)
      dsimp only [Pt.U, Pt.locs, Pt.cells, Pt.slots] at X41 l41 y41 z41 st41 hQ41
      subst l41 y41 z41
      obtain ⟨rfl, N41q, e41⟩ := hQ41
      have N41 := Fr.app N40 N41q
      refine Goes.step (S' := T41.setTop (mkF m 113 #[.val (.int p1), .val (.ref a1), .val (.int (1 : Int32)), .val (.ref b1), .val (.ref s1), .val (.int (0 : Int32)), .val (.int (1 : Int32))] [(.int (own_isf b1 b0 b1))])) (fun t k => st41.trans k) ?_
      rw [own_isf_b n10 (rfl : b1 = b1)]
      show Goes p e below (R0 Z p1 b0 b1 b2 b3 b4 b5 s0 s1 s2 s3 s4 s5 v0 v1 v2 v3 v4 v5 cl0 cl1 cl2 cl3 cl4 cl5 vF cs h0 n0 s) (T41.setTop (mkF m 113 #[.val (.int p1), .val (.ref a1), .val (.int (1 : Int32)), .val (.ref b1), .val (.ref s1), .val (.int (0 : Int32)), .val (.int (1 : Int32))] [(.int (1 : Int32))]))
      refine Goes.step (S' := T41.setTop (mkF m 115 #[.val (.int p1), .val (.ref a1), .val (.int (1 : Int32)), .val (.ref b1), .val (.ref s1), .val (.int (0 : Int32)), .val (.int (1 : Int32))] [(.int (1 : Int32)), (.int (1 : Int32))])) (fun t k => XS.iload X41.here hx rfl (hb hby at_113) rfl k) ?_
      refine Goes.step (S' := T41.setTop (mkF m 118 #[.val (.int p1), .val (.ref a1), .val (.int (1 : Int32)), .val (.ref b1), .val (.ref s1), .val (.int (0 : Int32)), .val (.int (1 : Int32))] [])) (fun t k => XS.icmpNo X41.here hx rfl (hb hby at_115) rfl (teq rfl).2 k) ?_
      refine Goes.step (S' := T41.setTop (mkF m 120 #[.val (.int p1), .val (.ref a1), .val (.int (1 : Int32)), .val (.ref b1), .val (.ref s1), .val (.int (0 : Int32)), .val (.int (1 : Int32))] [(.int (1 : Int32))])) (fun t k => XS.iload X41.here hx rfl (hb hby at_118) rfl k) ?_
      refine Goes.step (S' := T41.setTop (mkF m 122 #[.val (.int p1), .val (.ref a1), .val (.int (1 : Int32)), .val (.ref b1), .val (.ref s1), .val (.int (0 : Int32)), .val (.int (1 : Int32))] [(.int (0 : Int32)), (.int (1 : Int32))])) (fun t k => XS.iload X41.here hx rfl (hb hby at_120) rfl k) ?_
      refine Goes.step (S' := T41.setTop (mkF m 125 #[.val (.int p1), .val (.ref a1), .val (.int (1 : Int32)), .val (.ref b1), .val (.ref s1), .val (.int (0 : Int32)), .val (.int (1 : Int32))] [(.int (1 : Int32))])) (fun t k => XS.ifNo X41.here hx rfl (hb hby at_122) rfl ((if0 _ _).trans (teq rfl).2) k) ?_
      refine Goes.step (S' := T41.setTop (mkF m 126 #[.val (.int p1), .val (.ref a1), .val (.int (1 : Int32)), .val (.ref b1), .val (.ref s1), .val (.int (0 : Int32)), .val (.int (1 : Int32))] [(.int (1 : Int32)), (.int (1 : Int32))])) (fun t k => XS.iconst X41.here hx rfl (hb hby at_125) k) ?_
      refine Goes.step (S' := T41.setTop (mkF m 130 #[.val (.int p1), .val (.ref a1), .val (.int (1 : Int32)), .val (.ref b1), .val (.ref s1), .val (.int (0 : Int32)), .val (.int (1 : Int32))] [(.int (1 : Int32)), (.int (1 : Int32))])) (fun t k => XS.goto X41.here hx rfl (pc0 := 126) (pc' := 130) rfl (hb hby at_126) (by decide) (by decide) k) ?_
      refine Goes.step (S' := T41.setTop (mkF m 133 #[.val (.int p1), .val (.ref a1), .val (.int (1 : Int32)), .val (.ref b1), .val (.ref s1), .val (.int (0 : Int32)), .val (.int (1 : Int32))] [])) (fun t k => XS.icmpNo X41.here hx rfl (hb hby at_130) rfl (teq rfl).2 k) ?_
      refine Goes.step (S' := T41.setTop (mkF m 134 #[.val (.int p1), .val (.ref a1), .val (.int (1 : Int32)), .val (.ref b1), .val (.ref s1), .val (.int (0 : Int32)), .val (.int (1 : Int32))] [(.int (1 : Int32))])) (fun t k => XS.iconst X41.here hx rfl (hb hby at_133) k) ?_
      refine Goes.step (S' := T41.setTop (mkF m 138 #[.val (.int p1), .val (.ref a1), .val (.int (1 : Int32)), .val (.ref b1), .val (.ref s1), .val (.int (0 : Int32)), .val (.int (1 : Int32))] [(.int (1 : Int32))])) (fun t k => XS.goto X41.here hx rfl (pc0 := 134) (pc' := 138) rfl (hb hby at_134) (by decide) (by decide) k) ?_
      obtain ⟨fs, hr, hrun, hended, hW, hsame⟩ := X41.leave (v := some (.int (1 : Int32))) (fun h => by rw [Bd.returns] at h; cases h)
      exact ⟨_, _, retN X41 hx (t := .boolean) Bd.returns (by simp) (hb hby at_138) hr, hrun, hended, _, _, rfl, ⟨rfl, N41⟩, ⟨_, rfl⟩, hW, hsame.mono (by decide) (by decide)⟩
    · refine Goes.step (S' := T30.setTop (mkF m 51 #[.val (.int p1), .val (.ref a1), .val (.int (2 : Int32)), .unset, .unset, .unset, .unset] [(.ref a1)])) (fun t k => XS.aloadN X30.here hx rfl (hb hby at_50) rfl rfl k) ?_
      refine Goes.step (S' := T30.setTop (mkF m 52 #[.val (.int p1), .val (.ref a1), .val (.int (2 : Int32)), .unset, .unset, .unset, .unset] [(.int (2 : Int32)), (.ref a1)])) (fun t k => XS.iloadN X30.here hx rfl (hb hby at_51) rfl k) ?_
      refine Goes.step (S' := T30.setTop (mkF m 53 #[.val (.int p1), .val (.ref a1), .val (.int (2 : Int32)), .unset, .unset, .unset, .unset] [(.ref b2)])) (fun t k => X30.aaload hx (j := (2 : Int32)) (v := (.ref b2)) (by rw [e30]; exact Ar.1) (State.isArrayOf_alike hZ.alike Ar.2.1) rfl Ar.2.2 (by rw [Sz]; decide) (Hs 2 (by decide)) (g := (mkF m 52 #[.val (.int p1), .val (.ref a1), .val (.int (2 : Int32)), .unset, .unset, .unset, .unset] [(.int (2 : Int32)), (.ref a1)])) rfl rfl (hb hby at_52) _ k) ?_
      refine Goes.step (S' := T30.setTop (mkF m 54 #[.val (.int p1), .val (.ref a1), .val (.int (2 : Int32)), .val (.ref b2), .unset, .unset, .unset] [])) (fun t k => XS.astoreN X30.here hx rfl (hb hby at_53) rfl rfl (l' := #[.val (.int p1), .val (.ref a1), .val (.int (2 : Int32)), .val (.ref b2), .unset, .unset, .unset]) rfl k) ?_
      refine Goes.step (S' := T30.setTop (mkF m 55 #[.val (.int p1), .val (.ref a1), .val (.int (2 : Int32)), .val (.ref b2), .unset, .unset, .unset] [(.ref b2)])) (fun t k => XS.aloadN X30.here hx rfl (hb hby at_54) rfl rfl k) ?_
      obtain ⟨cq42, kq42, q42a, q42b, q42c⟩ := isOf hZ e30 (E2.ext Od6.2)
      obtain ⟨_, _, ⟨T42, L42, k42, n42⟩, -, X42, ⟨Lc42, hQ42, l42, y42, z42⟩, st42⟩ := X30.virtualBack hx (y := (⟨"com/example/rbac_check/rbaccheck/policy/Condition$Operator", "symbol", "()Ljava/lang/String;"⟩ : MethodName)) (z := (⟨"com/example/rbac_check/rbaccheck/policy/Condition$Operator", "symbol", "()Ljava/lang/String;"⟩ : MethodName)) hown (mvT hZ (hw _ (List.mem_of_getElem? (i := 17) rfl))) (mvT hZ (hw _ (List.mem_of_getElem? (i := 18) rfl))) (notFace_of_selects (args := #[]) (mvT hZ (hw _ (List.mem_of_getElem? (i := 20) rfl)))) (mvT hZ (hw _ (List.mem_of_getElem? (i := 20) rfl))) (mvT hZ (hw _ (List.mem_of_getElem? (i := 19) rfl))) (by decide) (backOf (W := 0) (rmsy l Z a0 hw [] b2 s2 h30 n0 Zh (Y2.ext Od6.2)) hZ (hw _ (List.mem_of_getElem? (i := 21) rfl)) (hw _ (List.mem_of_getElem? (i := 3) rfl)) (by decide) (by decide)) q42a q42c (g := (mkF m 55 #[.val (.int p1), .val (.ref a1), .val (.int (2 : Int32)), .val (.ref b2), .unset, .unset, .unset] [(.ref b2)])) rfl (by rw [hml]; rfl) (Steps.refl _) (argsL := []) (rest := []) (lenOf pd_sy rfl) rfl (by show 2 * 0 + _ ≤ _; exact Nat.le_of_eq rfl) (hb hby at_55) (fun _ _ => ⟨rfl, e30, (by decide : 1 + 0 ≤ _), (by decide : 6 + 0 ≤ _)⟩)
      dsimp only [Pt.U, Pt.locs, Pt.cells, Pt.slots] at X42 l42 y42 z42 st42 hQ42
      subst l42 y42 z42
      obtain ⟨rfl, N42q, e42⟩ := hQ42
      have N42 := Fr.app N30 N42q
      refine Goes.step (S' := T42.setTop (mkF m 58 #[.val (.int p1), .val (.ref a1), .val (.int (2 : Int32)), .val (.ref b2), .unset, .unset, .unset] [(.ref s2)])) (fun t k => st42.trans k) ?_
      refine Goes.step (S' := T42.setTop (mkF m 60 #[.val (.int p1), .val (.ref a1), .val (.int (2 : Int32)), .val (.ref b2), .val (.ref s2), .unset, .unset] [])) (fun t k => XS.astore X42.here hx rfl (hb hby at_58) rfl rfl (l' := #[.val (.int p1), .val (.ref a1), .val (.int (2 : Int32)), .val (.ref b2), .val (.ref s2), .unset, .unset]) rfl k) ?_
      refine Goes.step (S' := T42.setTop (mkF m 62 #[.val (.int p1), .val (.ref a1), .val (.int (2 : Int32)), .val (.ref b2), .val (.ref s2), .unset, .unset] [(.ref s2)])) (fun t k => XS.aload X42.here hx rfl (hb hby at_60) rfl rfl k) ?_
      obtain ⟨cq43, kq43, q43a, q43b, q43c⟩ := isOf hZ e42 (Es2.ext Od6.2)
      obtain ⟨_, _, ⟨T43, L43, k43, n43⟩, -, X43, ⟨Lc43, hQ43, l43, y43, z43⟩, st43⟩ := X42.virtualBack hx (y := (⟨"java/lang/String", "length", "()I"⟩ : MethodName)) (z := (⟨"java/lang/String", "length", "()I"⟩ : MethodName)) hown (mvT hZ (hw _ (List.mem_of_getElem? (i := 24) rfl))) (mvT hZ (hw _ (List.mem_of_getElem? (i := 25) rfl))) (notFace_of_selects (args := #[]) (mvT hZ (hw _ (List.mem_of_getElem? (i := 27) rfl)))) (mvT hZ (hw _ (List.mem_of_getElem? (i := 27) rfl))) (mvT hZ (hw _ (List.mem_of_getElem? (i := 26) rfl))) (by decide) (backOf (W := 0) (rmle l Z a0 hw [] s2 v2 (1 : Int32) cl2 cs h30 n0 Zh (SC.ext Od6.2) hcs (Es2.ext Od6.2) (Fc2.ext Od6.2) (Fv2.ext Od6.2) (Ar2.ext Od6.2) Sz2 (by decide)) hZ (hw _ (List.mem_of_getElem? (i := 29) rfl)) (hw _ (List.mem_of_getElem? (i := 28) rfl)) (by decide) (by decide)) q43a q43c (g := (mkF m 62 #[.val (.int p1), .val (.ref a1), .val (.int (2 : Int32)), .val (.ref b2), .val (.ref s2), .unset, .unset] [(.ref s2)])) rfl (by rw [hml]; rfl) (Steps.refl _) (argsL := []) (rest := []) (lenOf pd_le rfl) rfl (by show 2 * 0 + _ ≤ _; exact Nat.le_of_eq rfl) (hb hby at_62) (fun _ _ => ⟨rfl, e42, (by decide : 1 + 0 ≤ _), (by decide : 6 + 0 ≤ _)⟩)
      dsimp only [Pt.U, Pt.locs, Pt.cells, Pt.slots] at X43 l43 y43 z43 st43 hQ43
      subst l43 y43 z43
      obtain ⟨rfl, N43q, e43⟩ := hQ43
      have N43 := Fr.app N42 N43q
      refine Goes.step (S' := T43.setTop (mkF m 65 #[.val (.int p1), .val (.ref a1), .val (.int (2 : Int32)), .val (.ref b2), .val (.ref s2), .unset, .unset] [(.int (1 : Int32))])) (fun t k => st43.trans k) ?_
      refine Goes.step (S' := T43.setTop (mkF m 68 #[.val (.int p1), .val (.ref a1), .val (.int (2 : Int32)), .val (.ref b2), .val (.ref s2), .unset, .unset] [])) (fun t k => XS.ifNo X43.here hx rfl (hb hby at_65) rfl ((if0 _ _).trans (tlt (by decide : (0 : Int32) < (1 : Int32))).2.2.2) k) ?_
      refine Goes.step (S' := T43.setTop (mkF m 70 #[.val (.int p1), .val (.ref a1), .val (.int (2 : Int32)), .val (.ref b2), .val (.ref s2), .unset, .unset] [(.ref s2)])) (fun t k => XS.aload X43.here hx rfl (hb hby at_68) rfl rfl k) ?_
      refine Goes.step (S' := T43.setTop (mkF m 71 #[.val (.int p1), .val (.ref a1), .val (.int (2 : Int32)), .val (.ref b2), .val (.ref s2), .unset, .unset] [(.int (0 : Int32)), (.ref s2)])) (fun t k => XS.iconst X43.here hx rfl (hb hby at_70) k) ?_
      obtain ⟨cq44, kq44, q44a, q44b, q44c⟩ := isOf hZ e43 (Es2.ext Od6.2)
      obtain ⟨_, _, ⟨T44, L44, k44, n44⟩, -, X44, ⟨Lc44, hQ44, l44, y44, z44⟩, st44⟩ := X43.virtualBack hx (y := (⟨"java/lang/String", "charAt", "(I)C"⟩ : MethodName)) (z := (⟨"java/lang/String", "charAt", "(I)C"⟩ : MethodName)) hown (mvT hZ (hw _ (List.mem_of_getElem? (i := 40) rfl))) (mvT hZ (hw _ (List.mem_of_getElem? (i := 41) rfl))) (notFace_of_selects (args := #[]) (mvT hZ (hw _ (List.mem_of_getElem? (i := 43) rfl)))) (mvT hZ (hw _ (List.mem_of_getElem? (i := 43) rfl))) (mvT hZ (hw _ (List.mem_of_getElem? (i := 42) rfl))) (by decide) (backOf (W := 0) (rmca l Z a0 hw [] s2 (0 : Int32) v2 (1 : Int32) (60 : Int32) cl2 vF cs h30 n0 Zh (SF.ext Od6.2) hF (SC.ext Od6.2) hcs (Es2.ext Od6.2) (Fc2.ext Od6.2) (Fv2.ext Od6.2) (Ar2.ext Od6.2) Sz2 (by decide) (by decide) (by decide) by2) hZ (hw _ (List.mem_of_getElem? (i := 44) rfl)) (hw _ (List.mem_of_getElem? (i := 28) rfl)) (by decide) (by decide)) q44a q44c (g := (mkF m 71 #[.val (.int p1), .val (.ref a1), .val (.int (2 : Int32)), .val (.ref b2), .val (.ref s2), .unset, .unset] [(.int (0 : Int32)), (.ref s2)])) rfl (by rw [hml]; rfl) (Steps.refl _) (argsL := [(.int (0 : Int32))]) (rest := []) (lenOf pd_ca rfl) rfl (by show 2 * 0 + _ ≤ _; exact Nat.le_of_eq rfl) (hb hby at_71) (fun _ _ => ⟨rfl, e43, (by decide : 1 + 0 ≤ _), (by decide : 6 + 0 ≤ _)⟩)
      dsimp only [Pt.U, Pt.locs, Pt.cells, Pt.slots] at X44 l44 y44 z44 st44 hQ44
      subst l44 y44 z44
      obtain ⟨rfl, N44q, e44⟩ := hQ44
      have N44 := Fr.app N43 N44q
      refine Goes.step (S' := T44.setTop (mkF m 74 #[.val (.int p1), .val (.ref a1), .val (.int (2 : Int32)), .val (.ref b2), .val (.ref s2), .unset, .unset] [(.int ((60 : Int32) &&& (255 : Int32)))])) (fun t k => st44.trans k) ?_
      refine Goes.step (S' := T44.setTop (mkF m 76 #[.val (.int p1), .val (.ref a1), .val (.int (2 : Int32)), .val (.ref b2), .val (.ref s2), .unset, .unset] [(.int (60 : Int32)), (.int ((60 : Int32) &&& (255 : Int32)))])) (fun t k => XS.bipush X44.here hx rfl (hb hby at_74) k) ?_
      refine Goes.step (S' := T44.setTop (mkF m 90 #[.val (.int p1), .val (.ref a1), .val (.int (2 : Int32)), .val (.ref b2), .val (.ref s2), .unset, .unset] [])) (fun t k => XS.icmpYes X44.here hx rfl (pc0 := 76) (pc' := 90) rfl (hb hby at_76) rfl (teq (by decide : ((60 : Int32) &&& (255 : Int32)) = (60 : Int32))).1 (by decide) (by decide) k) ?_
      refine Goes.step (S' := T44.setTop (mkF m 91 #[.val (.int p1), .val (.ref a1), .val (.int (2 : Int32)), .val (.ref b2), .val (.ref s2), .unset, .unset] [(.int (1 : Int32))])) (fun t k => XS.iconst X44.here hx rfl (hb hby at_90) k) ?_
      refine Goes.step (S' := T44.setTop (mkF m 95 #[.val (.int p1), .val (.ref a1), .val (.int (2 : Int32)), .val (.ref b2), .val (.ref s2), .unset, .unset] [(.int (1 : Int32))])) (fun t k => XS.goto X44.here hx rfl (pc0 := 91) (pc' := 95) rfl (hb hby at_91) (by decide) (by decide) k) ?_
      refine Goes.step (S' := T44.setTop (mkF m 97 #[.val (.int p1), .val (.ref a1), .val (.int (2 : Int32)), .val (.ref b2), .val (.ref s2), .val (.int (1 : Int32)), .unset] [])) (fun t k => XS.istore X44.here hx rfl (hb hby at_95) rfl (l' := #[.val (.int p1), .val (.ref a1), .val (.int (2 : Int32)), .val (.ref b2), .val (.ref s2), .val (.int (1 : Int32)), .unset]) rfl k) ?_
      refine Goes.step (S' := T44.setTop (mkF m 98 #[.val (.int p1), .val (.ref a1), .val (.int (2 : Int32)), .val (.ref b2), .val (.ref s2), .val (.int (1 : Int32)), .unset] [(.int (2 : Int32))])) (fun t k => XS.iloadN X44.here hx rfl (hb hby at_97) rfl k) ?_
      refine Goes.step (S' := T44.setTop (mkF m 99 #[.val (.int p1), .val (.ref a1), .val (.int (2 : Int32)), .val (.ref b2), .val (.ref s2), .val (.int (1 : Int32)), .unset] [(.int (2 : Int32)), (.int (2 : Int32))])) (fun t k => XS.iconst X44.here hx rfl (hb hby at_98) k) ?_
      refine Goes.step (S' := T44.setTop (mkF m 106 #[.val (.int p1), .val (.ref a1), .val (.int (2 : Int32)), .val (.ref b2), .val (.ref s2), .val (.int (1 : Int32)), .unset] [])) (fun t k => XS.icmpYes X44.here hx rfl (pc0 := 99) (pc' := 106) rfl (hb hby at_99) rfl (flt (by decide : ¬ (2 : Int32) < (2 : Int32))).2.1 (by decide) (by decide) k) ?_
      refine Goes.step (S' := T44.setTop (mkF m 107 #[.val (.int p1), .val (.ref a1), .val (.int (2 : Int32)), .val (.ref b2), .val (.ref s2), .val (.int (1 : Int32)), .unset] [(.int (0 : Int32))])) (fun t k => XS.iconst X44.here hx rfl (hb hby at_106) k) ?_
      refine Goes.step (S' := T44.setTop (mkF m 109 #[.val (.int p1), .val (.ref a1), .val (.int (2 : Int32)), .val (.ref b2), .val (.ref s2), .val (.int (1 : Int32)), .val (.int (0 : Int32))] [])) (fun t k => XS.istore X44.here hx rfl (hb hby at_107) rfl (l' := #[.val (.int p1), .val (.ref a1), .val (.int (2 : Int32)), .val (.ref b2), .val (.ref s2), .val (.int (1 : Int32)), .val (.int (0 : Int32))]) rfl k) ?_
      refine Goes.step (S' := T44.setTop (mkF m 110 #[.val (.int p1), .val (.ref a1), .val (.int (2 : Int32)), .val (.ref b2), .val (.ref s2), .val (.int (1 : Int32)), .val (.int (0 : Int32))] [(.ref b2)])) (fun t k => XS.aloadN X44.here hx rfl (hb hby at_109) rfl rfl k) ?_
      obtain ⟨cq45, kq45, q45a, q45b, q45c⟩ := isOf hZ e44 (E2.ext Od6.2)
      obtain ⟨_, _, ⟨T45, L45, k45, n45⟩, -, X45, ⟨Lc45, hQ45, l45, y45, z45⟩, st45⟩ := X44.virtualBack hx (y := (⟨"com/example/rbac_check/rbaccheck/policy/Condition$Operator", "isEquality", "()Z"⟩ : MethodName)) (z := (⟨"com/example/rbac_check/rbaccheck/policy/Condition$Operator", "isEquality", "()Z"⟩ : MethodName)) hown (mvT hZ (hw _ (List.mem_of_getElem? (i := 62) rfl))) (mvT hZ (hw _ (List.mem_of_getElem? (i := 63) rfl))) (notFace_of_selects (args := #[]) (mvT hZ (hw _ (List.mem_of_getElem? (i := 65) rfl)))) (mvT hZ (hw _ (List.mem_of_getElem? (i := 65) rfl))) (mvT hZ (hw _ (List.mem_of_getElem? (i := 64) rfl))) (by decide) (backOf (W := 0) (rmeq l Z a0 hw [] b2 b0 b1 h30 n0 Zh (S0.ext Od6.2) (S1.ext Od6.2)) hZ (hw _ (List.mem_of_getElem? (i := 66) rfl)) (hw _ (List.mem_of_getElem? (i := 3) rfl)) (by decide) (by decide)) q45a q45c (g := (mkF m 110 #[.val (.int p1), .val (.ref a1), .val (.int (2 : Int32)), .val (.ref b2), .val (.ref s2), .val (.int (1 : Int32)), .val (.int (0 : Int32))] [(.ref b2)])) rfl (by rw [hml]; rfl) (Steps.refl _) (argsL := []) (rest := []) (lenOf pd_eq rfl) rfl (by show 2 * 0 + _ ≤ _; exact Nat.le_of_eq rfl) (hb hby at_110) (fun _ _ => ⟨rfl, e44, (by decide : 1 + 0 ≤ _), (by decide : 6 + 0 ≤ _)⟩)
      dsimp only [Pt.U, Pt.locs, Pt.cells, Pt.slots] at X45 l45 y45 z45 st45 hQ45
      subst l45 y45 z45
      obtain ⟨rfl, N45q, e45⟩ := hQ45
      have N45 := Fr.app N44 N45q
      refine Goes.step (S' := T45.setTop (mkF m 113 #[.val (.int p1), .val (.ref a1), .val (.int (2 : Int32)), .val (.ref b2), .val (.ref s2), .val (.int (1 : Int32)), .val (.int (0 : Int32))] [(.int (own_isf b2 b0 b1))])) (fun t k => st45.trans k) ?_
      rw [own_isf_0 n20 n21]
      show Goes p e below (R0 Z p1 b0 b1 b2 b3 b4 b5 s0 s1 s2 s3 s4 s5 v0 v1 v2 v3 v4 v5 cl0 cl1 cl2 cl3 cl4 cl5 vF cs h0 n0 s) (T45.setTop (mkF m 113 #[.val (.int p1), .val (.ref a1), .val (.int (2 : Int32)), .val (.ref b2), .val (.ref s2), .val (.int (1 : Int32)), .val (.int (0 : Int32))] [(.int (0 : Int32))]))
      refine Goes.step (S' := T45.setTop (mkF m 115 #[.val (.int p1), .val (.ref a1), .val (.int (2 : Int32)), .val (.ref b2), .val (.ref s2), .val (.int (1 : Int32)), .val (.int (0 : Int32))] [(.int (0 : Int32)), (.int (0 : Int32))])) (fun t k => XS.iload X45.here hx rfl (hb hby at_113) rfl k) ?_
      refine Goes.step (S' := T45.setTop (mkF m 118 #[.val (.int p1), .val (.ref a1), .val (.int (2 : Int32)), .val (.ref b2), .val (.ref s2), .val (.int (1 : Int32)), .val (.int (0 : Int32))] [])) (fun t k => XS.icmpNo X45.here hx rfl (hb hby at_115) rfl (teq rfl).2 k) ?_
      refine Goes.step (S' := T45.setTop (mkF m 120 #[.val (.int p1), .val (.ref a1), .val (.int (2 : Int32)), .val (.ref b2), .val (.ref s2), .val (.int (1 : Int32)), .val (.int (0 : Int32))] [(.int (0 : Int32))])) (fun t k => XS.iload X45.here hx rfl (hb hby at_118) rfl k) ?_
      refine Goes.step (S' := T45.setTop (mkF m 122 #[.val (.int p1), .val (.ref a1), .val (.int (2 : Int32)), .val (.ref b2), .val (.ref s2), .val (.int (1 : Int32)), .val (.int (0 : Int32))] [(.int (1 : Int32)), (.int (0 : Int32))])) (fun t k => XS.iload X45.here hx rfl (hb hby at_120) rfl k) ?_
      refine Goes.step (S' := T45.setTop (mkF m 129 #[.val (.int p1), .val (.ref a1), .val (.int (2 : Int32)), .val (.ref b2), .val (.ref s2), .val (.int (1 : Int32)), .val (.int (0 : Int32))] [(.int (0 : Int32))])) (fun t k => XS.ifYes X45.here hx rfl (pc0 := 122) (pc' := 129) rfl (hb hby at_122) rfl ((if0 _ _).trans (feq (by decide : ¬ (1 : Int32) = (0 : Int32))).2) (by decide) (by decide) k) ?_
      refine Goes.step (S' := T45.setTop (mkF m 130 #[.val (.int p1), .val (.ref a1), .val (.int (2 : Int32)), .val (.ref b2), .val (.ref s2), .val (.int (1 : Int32)), .val (.int (0 : Int32))] [(.int (0 : Int32)), (.int (0 : Int32))])) (fun t k => XS.iconst X45.here hx rfl (hb hby at_129) k) ?_
      refine Goes.step (S' := T45.setTop (mkF m 133 #[.val (.int p1), .val (.ref a1), .val (.int (2 : Int32)), .val (.ref b2), .val (.ref s2), .val (.int (1 : Int32)), .val (.int (0 : Int32))] [])) (fun t k => XS.icmpNo X45.here hx rfl (hb hby at_130) rfl (teq rfl).2 k) ?_
      refine Goes.step (S' := T45.setTop (mkF m 134 #[.val (.int p1), .val (.ref a1), .val (.int (2 : Int32)), .val (.ref b2), .val (.ref s2), .val (.int (1 : Int32)), .val (.int (0 : Int32))] [(.int (1 : Int32))])) (fun t k => XS.iconst X45.here hx rfl (hb hby at_133) k) ?_
      refine Goes.step (S' := T45.setTop (mkF m 138 #[.val (.int p1), .val (.ref a1), .val (.int (2 : Int32)), .val (.ref b2), .val (.ref s2), .val (.int (1 : Int32)), .val (.int (0 : Int32))] [(.int (1 : Int32))])) (fun t k => XS.goto X45.here hx rfl (pc0 := 134) (pc' := 138) rfl (hb hby at_134) (by decide) (by decide) k) ?_
      obtain ⟨fs, hr, hrun, hended, hW, hsame⟩ := X45.leave (v := some (.int (1 : Int32))) (fun h => by rw [Bd.returns] at h; cases h)
      exact ⟨_, _, retN X45 hx (t := .boolean) Bd.returns (by simp) (hb hby at_138) hr, hrun, hended, _, _, rfl, ⟨rfl, N45⟩, ⟨_, rfl⟩, hW, hsame.mono (by decide) (by decide)⟩
    · refine Goes.step (S' := T30.setTop (mkF m 51 #[.val (.int p1), .val (.ref a1), .val (.int (3 : Int32)), .unset, .unset, .unset, .unset] [(.ref a1)])) (fun t k => XS.aloadN X30.here hx rfl (hb hby at_50) rfl rfl k) ?_
      refine Goes.step (S' := T30.setTop (mkF m 52 #[.val (.int p1), .val (.ref a1), .val (.int (3 : Int32)), .unset, .unset, .unset, .unset] [(.int (3 : Int32)), (.ref a1)])) (fun t k => XS.iloadN X30.here hx rfl (hb hby at_51) rfl k) ?_
      refine Goes.step (S' := T30.setTop (mkF m 53 #[.val (.int p1), .val (.ref a1), .val (.int (3 : Int32)), .unset, .unset, .unset, .unset] [(.ref b3)])) (fun t k => X30.aaload hx (j := (3 : Int32)) (v := (.ref b3)) (by rw [e30]; exact Ar.1) (State.isArrayOf_alike hZ.alike Ar.2.1) rfl Ar.2.2 (by rw [Sz]; decide) (Hs 3 (by decide)) (g := (mkF m 52 #[.val (.int p1), .val (.ref a1), .val (.int (3 : Int32)), .unset, .unset, .unset, .unset] [(.int (3 : Int32)), (.ref a1)])) rfl rfl (hb hby at_52) _ k) ?_
      refine Goes.step (S' := T30.setTop (mkF m 54 #[.val (.int p1), .val (.ref a1), .val (.int (3 : Int32)), .val (.ref b3), .unset, .unset, .unset] [])) (fun t k => XS.astoreN X30.here hx rfl (hb hby at_53) rfl rfl (l' := #[.val (.int p1), .val (.ref a1), .val (.int (3 : Int32)), .val (.ref b3), .unset, .unset, .unset]) rfl k) ?_
      refine Goes.step (S' := T30.setTop (mkF m 55 #[.val (.int p1), .val (.ref a1), .val (.int (3 : Int32)), .val (.ref b3), .unset, .unset, .unset] [(.ref b3)])) (fun t k => XS.aloadN X30.here hx rfl (hb hby at_54) rfl rfl k) ?_
      obtain ⟨cq46, kq46, q46a, q46b, q46c⟩ := isOf hZ e30 (E3.ext Od6.2)
      obtain ⟨_, _, ⟨T46, L46, k46, n46⟩, -, X46, ⟨Lc46, hQ46, l46, y46, z46⟩, st46⟩ := X30.virtualBack hx (y := (⟨"com/example/rbac_check/rbaccheck/policy/Condition$Operator", "symbol", "()Ljava/lang/String;"⟩ : MethodName)) (z := (⟨"com/example/rbac_check/rbaccheck/policy/Condition$Operator", "symbol", "()Ljava/lang/String;"⟩ : MethodName)) hown (mvT hZ (hw _ (List.mem_of_getElem? (i := 17) rfl))) (mvT hZ (hw _ (List.mem_of_getElem? (i := 18) rfl))) (notFace_of_selects (args := #[]) (mvT hZ (hw _ (List.mem_of_getElem? (i := 20) rfl)))) (mvT hZ (hw _ (List.mem_of_getElem? (i := 20) rfl))) (mvT hZ (hw _ (List.mem_of_getElem? (i := 19) rfl))) (by decide) (backOf (W := 0) (rmsy l Z a0 hw [] b3 s3 h30 n0 Zh (Y3.ext Od6.2)) hZ (hw _ (List.mem_of_getElem? (i := 21) rfl)) (hw _ (List.mem_of_getElem? (i := 3) rfl)) (by decide) (by decide)) q46a q46c (g := (mkF m 55 #[.val (.int p1), .val (.ref a1), .val (.int (3 : Int32)), .val (.ref b3), .unset, .unset, .unset] [(.ref b3)])) rfl (by rw [hml]; rfl) (Steps.refl _) (argsL := []) (rest := []) (lenOf pd_sy rfl) rfl (by show 2 * 0 + _ ≤ _; exact Nat.le_of_eq rfl) (hb hby at_55) (fun _ _ => ⟨rfl, e30, (by decide : 1 + 0 ≤ _), (by decide : 6 + 0 ≤ _)⟩)
      dsimp only [Pt.U, Pt.locs, Pt.cells, Pt.slots] at X46 l46 y46 z46 st46 hQ46
      subst l46 y46 z46
      obtain ⟨rfl, N46q, e46⟩ := hQ46
      have N46 := Fr.app N30 N46q
      refine Goes.step (S' := T46.setTop (mkF m 58 #[.val (.int p1), .val (.ref a1), .val (.int (3 : Int32)), .val (.ref b3), .unset, .unset, .unset] [(.ref s3)])) (fun t k => st46.trans k) ?_
      refine Goes.step (S' := T46.setTop (mkF m 60 #[.val (.int p1), .val (.ref a1), .val (.int (3 : Int32)), .val (.ref b3), .val (.ref s3), .unset, .unset] [])) (fun t k => XS.astore X46.here hx rfl (hb hby at_58) rfl rfl (l' := #[.val (.int p1), .val (.ref a1), .val (.int (3 : Int32)), .val (.ref b3), .val (.ref s3), .unset, .unset]) rfl k) ?_
      refine Goes.step (S' := T46.setTop (mkF m 62 #[.val (.int p1), .val (.ref a1), .val (.int (3 : Int32)), .val (.ref b3), .val (.ref s3), .unset, .unset] [(.ref s3)])) (fun t k => XS.aload X46.here hx rfl (hb hby at_60) rfl rfl k) ?_
      obtain ⟨cq47, kq47, q47a, q47b, q47c⟩ := isOf hZ e46 (Es3.ext Od6.2)
      obtain ⟨_, _, ⟨T47, L47, k47, n47⟩, -, X47, ⟨Lc47, hQ47, l47, y47, z47⟩, st47⟩ := X46.virtualBack hx (y := (⟨"java/lang/String", "length", "()I"⟩ : MethodName)) (z := (⟨"java/lang/String", "length", "()I"⟩ : MethodName)) hown (mvT hZ (hw _ (List.mem_of_getElem? (i := 24) rfl))) (mvT hZ (hw _ (List.mem_of_getElem? (i := 25) rfl))) (notFace_of_selects (args := #[]) (mvT hZ (hw _ (List.mem_of_getElem? (i := 27) rfl)))) (mvT hZ (hw _ (List.mem_of_getElem? (i := 27) rfl))) (mvT hZ (hw _ (List.mem_of_getElem? (i := 26) rfl))) (by decide) (backOf (W := 0) (rmle l Z a0 hw [] s3 v3 (2 : Int32) cl3 cs h30 n0 Zh (SC.ext Od6.2) hcs (Es3.ext Od6.2) (Fc3.ext Od6.2) (Fv3.ext Od6.2) (Ar3.ext Od6.2) Sz3 (by decide)) hZ (hw _ (List.mem_of_getElem? (i := 29) rfl)) (hw _ (List.mem_of_getElem? (i := 28) rfl)) (by decide) (by decide)) q47a q47c (g := (mkF m 62 #[.val (.int p1), .val (.ref a1), .val (.int (3 : Int32)), .val (.ref b3), .val (.ref s3), .unset, .unset] [(.ref s3)])) rfl (by rw [hml]; rfl) (Steps.refl _) (argsL := []) (rest := []) (lenOf pd_le rfl) rfl (by show 2 * 0 + _ ≤ _; exact Nat.le_of_eq rfl) (hb hby at_62) (fun _ _ => ⟨rfl, e46, (by decide : 1 + 0 ≤ _), (by decide : 6 + 0 ≤ _)⟩)
      dsimp only [Pt.U, Pt.locs, Pt.cells, Pt.slots] at X47 l47 y47 z47 st47 hQ47
      subst l47 y47 z47
      obtain ⟨rfl, N47q, e47⟩ := hQ47
      have N47 := Fr.app N46 N47q
      refine Goes.step (S' := T47.setTop (mkF m 65 #[.val (.int p1), .val (.ref a1), .val (.int (3 : Int32)), .val (.ref b3), .val (.ref s3), .unset, .unset] [(.int (2 : Int32))])) (fun t k => st47.trans k) ?_
      refine Goes.step (S' := T47.setTop (mkF m 68 #[.val (.int p1), .val (.ref a1), .val (.int (3 : Int32)), .val (.ref b3), .val (.ref s3), .unset, .unset] [])) (fun t k => XS.ifNo X47.here hx rfl (hb hby at_65) rfl ((if0 _ _).trans (tlt (by decide : (0 : Int32) < (2 : Int32))).2.2.2) k) ?_
      refine Goes.step (S' := T47.setTop (mkF m 70 #[.val (.int p1), .val (.ref a1), .val (.int (3 : Int32)), .val (.ref b3), .val (.ref s3), .unset, .unset] [(.ref s3)])) (fun t k => XS.aload X47.here hx rfl (hb hby at_68) rfl rfl k) ?_
      refine Goes.step (S' := T47.setTop (mkF m 71 #[.val (.int p1), .val (.ref a1), .val (.int (3 : Int32)), .val (.ref b3), .val (.ref s3), .unset, .unset] [(.int (0 : Int32)), (.ref s3)])) (fun t k => XS.iconst X47.here hx rfl (hb hby at_70) k) ?_
      obtain ⟨cq48, kq48, q48a, q48b, q48c⟩ := isOf hZ e47 (Es3.ext Od6.2)
      obtain ⟨_, _, ⟨T48, L48, k48, n48⟩, -, X48, ⟨Lc48, hQ48, l48, y48, z48⟩, st48⟩ := X47.virtualBack hx (y := (⟨"java/lang/String", "charAt", "(I)C"⟩ : MethodName)) (z := (⟨"java/lang/String", "charAt", "(I)C"⟩ : MethodName)) hown (mvT hZ (hw _ (List.mem_of_getElem? (i := 40) rfl))) (mvT hZ (hw _ (List.mem_of_getElem? (i := 41) rfl))) (notFace_of_selects (args := #[]) (mvT hZ (hw _ (List.mem_of_getElem? (i := 43) rfl)))) (mvT hZ (hw _ (List.mem_of_getElem? (i := 43) rfl))) (mvT hZ (hw _ (List.mem_of_getElem? (i := 42) rfl))) (by decide) (backOf (W := 0) (rmca l Z a0 hw [] s3 (0 : Int32) v3 (2 : Int32) (60 : Int32) cl3 vF cs h30 n0 Zh (SF.ext Od6.2) hF (SC.ext Od6.2) hcs (Es3.ext Od6.2) (Fc3.ext Od6.2) (Fv3.ext Od6.2) (Ar3.ext Od6.2) Sz3 (by decide) (by decide) (by decide) by3) hZ (hw _ (List.mem_of_getElem? (i := 44) rfl)) (hw _ (List.mem_of_getElem? (i := 28) rfl)) (by decide) (by decide)) q48a q48c (g := (mkF m 71 #[.val (.int p1), .val (.ref a1), .val (.int (3 : Int32)), .val (.ref b3), .val (.ref s3), .unset, .unset] [(.int (0 : Int32)), (.ref s3)])) rfl (by rw [hml]; rfl) (Steps.refl _) (argsL := [(.int (0 : Int32))]) (rest := []) (lenOf pd_ca rfl) rfl (by show 2 * 0 + _ ≤ _; exact Nat.le_of_eq rfl) (hb hby at_71) (fun _ _ => ⟨rfl, e47, (by decide : 1 + 0 ≤ _), (by decide : 6 + 0 ≤ _)⟩)
      dsimp only [Pt.U, Pt.locs, Pt.cells, Pt.slots] at X48 l48 y48 z48 st48 hQ48
      subst l48 y48 z48
      obtain ⟨rfl, N48q, e48⟩ := hQ48
      have N48 := Fr.app N47 N48q
      refine Goes.step (S' := T48.setTop (mkF m 74 #[.val (.int p1), .val (.ref a1), .val (.int (3 : Int32)), .val (.ref b3), .val (.ref s3), .unset, .unset] [(.int ((60 : Int32) &&& (255 : Int32)))])) (fun t k => st48.trans k) ?_
      refine Goes.step (S' := T48.setTop (mkF m 76 #[.val (.int p1), .val (.ref a1), .val (.int (3 : Int32)), .val (.ref b3), .val (.ref s3), .unset, .unset] [(.int (60 : Int32)), (.int ((60 : Int32) &&& (255 : Int32)))])) (fun t k => XS.bipush X48.here hx rfl (hb hby at_74) k) ?_
      refine Goes.step (S' := T48.setTop (mkF m 90 #[.val (.int p1), .val (.ref a1), .val (.int (3 : Int32)), .val (.ref b3), .val (.ref s3), .unset, .unset] [])) (fun t k => XS.icmpYes X48.here hx rfl (pc0 := 76) (pc' := 90) rfl (hb hby at_76) rfl (teq (by decide : ((60 : Int32) &&& (255 : Int32)) = (60 : Int32))).1 (by decide) (by decide) k) ?_
      refine Goes.step (S' := T48.setTop (mkF m 91 #[.val (.int p1), .val (.ref a1), .val (.int (3 : Int32)), .val (.ref b3), .val (.ref s3), .unset, .unset] [(.int (1 : Int32))])) (fun t k => XS.iconst X48.here hx rfl (hb hby at_90) k) ?_
      refine Goes.step (S' := T48.setTop (mkF m 95 #[.val (.int p1), .val (.ref a1), .val (.int (3 : Int32)), .val (.ref b3), .val (.ref s3), .unset, .unset] [(.int (1 : Int32))])) (fun t k => XS.goto X48.here hx rfl (pc0 := 91) (pc' := 95) rfl (hb hby at_91) (by decide) (by decide) k) ?_
      refine Goes.step (S' := T48.setTop (mkF m 97 #[.val (.int p1), .val (.ref a1), .val (.int (3 : Int32)), .val (.ref b3), .val (.ref s3), .val (.int (1 : Int32)), .unset] [])) (fun t k => XS.istore X48.here hx rfl (hb hby at_95) rfl (l' := #[.val (.int p1), .val (.ref a1), .val (.int (3 : Int32)), .val (.ref b3), .val (.ref s3), .val (.int (1 : Int32)), .unset]) rfl k) ?_
      refine Goes.step (S' := T48.setTop (mkF m 98 #[.val (.int p1), .val (.ref a1), .val (.int (3 : Int32)), .val (.ref b3), .val (.ref s3), .val (.int (1 : Int32)), .unset] [(.int (3 : Int32))])) (fun t k => XS.iloadN X48.here hx rfl (hb hby at_97) rfl k) ?_
      refine Goes.step (S' := T48.setTop (mkF m 99 #[.val (.int p1), .val (.ref a1), .val (.int (3 : Int32)), .val (.ref b3), .val (.ref s3), .val (.int (1 : Int32)), .unset] [(.int (2 : Int32)), (.int (3 : Int32))])) (fun t k => XS.iconst X48.here hx rfl (hb hby at_98) k) ?_
      refine Goes.step (S' := T48.setTop (mkF m 106 #[.val (.int p1), .val (.ref a1), .val (.int (3 : Int32)), .val (.ref b3), .val (.ref s3), .val (.int (1 : Int32)), .unset] [])) (fun t k => XS.icmpYes X48.here hx rfl (pc0 := 99) (pc' := 106) rfl (hb hby at_99) rfl (flt (by decide : ¬ (3 : Int32) < (2 : Int32))).2.1 (by decide) (by decide) k) ?_
      refine Goes.step (S' := T48.setTop (mkF m 107 #[.val (.int p1), .val (.ref a1), .val (.int (3 : Int32)), .val (.ref b3), .val (.ref s3), .val (.int (1 : Int32)), .unset] [(.int (0 : Int32))])) (fun t k => XS.iconst X48.here hx rfl (hb hby at_106) k) ?_
      refine Goes.step (S' := T48.setTop (mkF m 109 #[.val (.int p1), .val (.ref a1), .val (.int (3 : Int32)), .val (.ref b3), .val (.ref s3), .val (.int (1 : Int32)), .val (.int (0 : Int32))] [])) (fun t k => XS.istore X48.here hx rfl (hb hby at_107) rfl (l' := #[.val (.int p1), .val (.ref a1), .val (.int (3 : Int32)), .val (.ref b3), .val (.ref s3), .val (.int (1 : Int32)), .val (.int (0 : Int32))]) rfl k) ?_
      refine Goes.step (S' := T48.setTop (mkF m 110 #[.val (.int p1), .val (.ref a1), .val (.int (3 : Int32)), .val (.ref b3), .val (.ref s3), .val (.int (1 : Int32)), .val (.int (0 : Int32))] [(.ref b3)])) (fun t k => XS.aloadN X48.here hx rfl (hb hby at_109) rfl rfl k) ?_
      obtain ⟨cq49, kq49, q49a, q49b, q49c⟩ := isOf hZ e48 (E3.ext Od6.2)
      obtain ⟨_, _, ⟨T49, L49, k49, n49⟩, -, X49, ⟨Lc49, hQ49, l49, y49, z49⟩, st49⟩ := X48.virtualBack hx (y := (⟨"com/example/rbac_check/rbaccheck/policy/Condition$Operator", "isEquality", "()Z"⟩ : MethodName)) (z := (⟨"com/example/rbac_check/rbaccheck/policy/Condition$Operator", "isEquality", "()Z"⟩ : MethodName)) hown (mvT hZ (hw _ (List.mem_of_getElem? (i := 62) rfl))) (mvT hZ (hw _ (List.mem_of_getElem? (i := 63) rfl))) (notFace_of_selects (args := #[]) (mvT hZ (hw _ (List.mem_of_getElem? (i := 65) rfl)))) (mvT hZ (hw _ (List.mem_of_getElem? (i := 65) rfl))) (mvT hZ (hw _ (List.mem_of_getElem? (i := 64) rfl))) (by decide) (backOf (W := 0) (rmeq l Z a0 hw [] b3 b0 b1 h30 n0 Zh (S0.ext Od6.2) (S1.ext Od6.2)) hZ (hw _ (List.mem_of_getElem? (i := 66) rfl)) (hw _ (List.mem_of_getElem? (i := 3) rfl)) (by decide) (by decide)) q49a q49c (g := (mkF m 110 #[.val (.int p1), .val (.ref a1), .val (.int (3 : Int32)), .val (.ref b3), .val (.ref s3), .val (.int (1 : Int32)), .val (.int (0 : Int32))] [(.ref b3)])) rfl (by rw [hml]; rfl) (Steps.refl _) (argsL := []) (rest := []) (lenOf pd_eq rfl) rfl (by show 2 * 0 + _ ≤ _; exact Nat.le_of_eq rfl) (hb hby at_110) (fun _ _ => ⟨rfl, e48, (by decide : 1 + 0 ≤ _), (by decide : 6 + 0 ≤ _)⟩)
      dsimp only [Pt.U, Pt.locs, Pt.cells, Pt.slots] at X49 l49 y49 z49 st49 hQ49
      subst l49 y49 z49
      obtain ⟨rfl, N49q, e49⟩ := hQ49
      have N49 := Fr.app N48 N49q
      refine Goes.step (S' := T49.setTop (mkF m 113 #[.val (.int p1), .val (.ref a1), .val (.int (3 : Int32)), .val (.ref b3), .val (.ref s3), .val (.int (1 : Int32)), .val (.int (0 : Int32))] [(.int (own_isf b3 b0 b1))])) (fun t k => st49.trans k) ?_
      rw [own_isf_0 n30 n31]
      show Goes p e below (R0 Z p1 b0 b1 b2 b3 b4 b5 s0 s1 s2 s3 s4 s5 v0 v1 v2 v3 v4 v5 cl0 cl1 cl2 cl3 cl4 cl5 vF cs h0 n0 s) (T49.setTop (mkF m 113 #[.val (.int p1), .val (.ref a1), .val (.int (3 : Int32)), .val (.ref b3), .val (.ref s3), .val (.int (1 : Int32)), .val (.int (0 : Int32))] [(.int (0 : Int32))]))
      refine Goes.step (S' := T49.setTop (mkF m 115 #[.val (.int p1), .val (.ref a1), .val (.int (3 : Int32)), .val (.ref b3), .val (.ref s3), .val (.int (1 : Int32)), .val (.int (0 : Int32))] [(.int (0 : Int32)), (.int (0 : Int32))])) (fun t k => XS.iload X49.here hx rfl (hb hby at_113) rfl k) ?_
      refine Goes.step (S' := T49.setTop (mkF m 118 #[.val (.int p1), .val (.ref a1), .val (.int (3 : Int32)), .val (.ref b3), .val (.ref s3), .val (.int (1 : Int32)), .val (.int (0 : Int32))] [])) (fun t k => XS.icmpNo X49.here hx rfl (hb hby at_115) rfl (teq rfl).2 k) ?_
      refine Goes.step (S' := T49.setTop (mkF m 120 #[.val (.int p1), .val (.ref a1), .val (.int (3 : Int32)), .val (.ref b3), .val (.ref s3), .val (.int (1 : Int32)), .val (.int (0 : Int32))] [(.int (0 : Int32))])) (fun t k => XS.iload X49.here hx rfl (hb hby at_118) rfl k) ?_
      refine Goes.step (S' := T49.setTop (mkF m 122 #[.val (.int p1), .val (.ref a1), .val (.int (3 : Int32)), .val (.ref b3), .val (.ref s3), .val (.int (1 : Int32)), .val (.int (0 : Int32))] [(.int (1 : Int32)), (.int (0 : Int32))])) (fun t k => XS.iload X49.here hx rfl (hb hby at_120) rfl k) ?_
      refine Goes.step (S' := T49.setTop (mkF m 129 #[.val (.int p1), .val (.ref a1), .val (.int (3 : Int32)), .val (.ref b3), .val (.ref s3), .val (.int (1 : Int32)), .val (.int (0 : Int32))] [(.int (0 : Int32))])) (fun t k => XS.ifYes X49.here hx rfl (pc0 := 122) (pc' := 129) rfl (hb hby at_122) rfl ((if0 _ _).trans (feq (by decide : ¬ (1 : Int32) = (0 : Int32))).2) (by decide) (by decide) k) ?_
      refine Goes.step (S' := T49.setTop (mkF m 130 #[.val (.int p1), .val (.ref a1), .val (.int (3 : Int32)), .val (.ref b3), .val (.ref s3), .val (.int (1 : Int32)), .val (.int (0 : Int32))] [(.int (0 : Int32)), (.int (0 : Int32))])) (fun t k => XS.iconst X49.here hx rfl (hb hby at_129) k) ?_
      refine Goes.step (S' := T49.setTop (mkF m 133 #[.val (.int p1), .val (.ref a1), .val (.int (3 : Int32)), .val (.ref b3), .val (.ref s3), .val (.int (1 : Int32)), .val (.int (0 : Int32))] [])) (fun t k => XS.icmpNo X49.here hx rfl (hb hby at_130) rfl (teq rfl).2 k) ?_
      refine Goes.step (S' := T49.setTop (mkF m 134 #[.val (.int p1), .val (.ref a1), .val (.int (3 : Int32)), .val (.ref b3), .val (.ref s3), .val (.int (1 : Int32)), .val (.int (0 : Int32))] [(.int (1 : Int32))])) (fun t k => XS.iconst X49.here hx rfl (hb hby at_133) k) ?_
      refine Goes.step (S' := T49.setTop (mkF m 138 #[.val (.int p1), .val (.ref a1), .val (.int (3 : Int32)), .val (.ref b3), .val (.ref s3), .val (.int (1 : Int32)), .val (.int (0 : Int32))] [(.int (1 : Int32))])) (fun t k => XS.goto X49.here hx rfl (pc0 := 134) (pc' := 138) rfl (hb hby at_134) (by decide) (by decide) k) ?_
      obtain ⟨fs, hr, hrun, hended, hW, hsame⟩ := X49.leave (v := some (.int (1 : Int32))) (fun h => by rw [Bd.returns] at h; cases h)
      exact ⟨_, _, retN X49 hx (t := .boolean) Bd.returns (by simp) (hb hby at_138) hr, hrun, hended, _, _, rfl, ⟨rfl, N49⟩, ⟨_, rfl⟩, hW, hsame.mono (by decide) (by decide)⟩
    · refine Goes.step (S' := T30.setTop (mkF m 51 #[.val (.int p1), .val (.ref a1), .val (.int (4 : Int32)), .unset, .unset, .unset, .unset] [(.ref a1)])) (fun t k => XS.aloadN X30.here hx rfl (hb hby at_50) rfl rfl k) ?_
      refine Goes.step (S' := T30.setTop (mkF m 52 #[.val (.int p1), .val (.ref a1), .val (.int (4 : Int32)), .unset, .unset, .unset, .unset] [(.int (4 : Int32)), (.ref a1)])) (fun t k => XS.iloadN X30.here hx rfl (hb hby at_51) rfl k) ?_
      refine Goes.step (S' := T30.setTop (mkF m 53 #[.val (.int p1), .val (.ref a1), .val (.int (4 : Int32)), .unset, .unset, .unset, .unset] [(.ref b4)])) (fun t k => X30.aaload hx (j := (4 : Int32)) (v := (.ref b4)) (by rw [e30]; exact Ar.1) (State.isArrayOf_alike hZ.alike Ar.2.1) rfl Ar.2.2 (by rw [Sz]; decide) (Hs 4 (by decide)) (g := (mkF m 52 #[.val (.int p1), .val (.ref a1), .val (.int (4 : Int32)), .unset, .unset, .unset, .unset] [(.int (4 : Int32)), (.ref a1)])) rfl rfl (hb hby at_52) _ k) ?_
      refine Goes.step (S' := T30.setTop (mkF m 54 #[.val (.int p1), .val (.ref a1), .val (.int (4 : Int32)), .val (.ref b4), .unset, .unset, .unset] [])) (fun t k => XS.astoreN X30.here hx rfl (hb hby at_53) rfl rfl (l' := #[.val (.int p1), .val (.ref a1), .val (.int (4 : Int32)), .val (.ref b4), .unset, .unset, .unset]) rfl k) ?_
      refine Goes.step (S' := T30.setTop (mkF m 55 #[.val (.int p1), .val (.ref a1), .val (.int (4 : Int32)), .val (.ref b4), .unset, .unset, .unset] [(.ref b4)])) (fun t k => XS.aloadN X30.here hx rfl (hb hby at_54) rfl rfl k) ?_
      obtain ⟨cq50, kq50, q50a, q50b, q50c⟩ := isOf hZ e30 (E4.ext Od6.2)
      obtain ⟨_, _, ⟨T50, L50, k50, n50⟩, -, X50, ⟨Lc50, hQ50, l50, y50, z50⟩, st50⟩ := X30.virtualBack hx (y := (⟨"com/example/rbac_check/rbaccheck/policy/Condition$Operator", "symbol", "()Ljava/lang/String;"⟩ : MethodName)) (z := (⟨"com/example/rbac_check/rbaccheck/policy/Condition$Operator", "symbol", "()Ljava/lang/String;"⟩ : MethodName)) hown (mvT hZ (hw _ (List.mem_of_getElem? (i := 17) rfl))) (mvT hZ (hw _ (List.mem_of_getElem? (i := 18) rfl))) (notFace_of_selects (args := #[]) (mvT hZ (hw _ (List.mem_of_getElem? (i := 20) rfl)))) (mvT hZ (hw _ (List.mem_of_getElem? (i := 20) rfl))) (mvT hZ (hw _ (List.mem_of_getElem? (i := 19) rfl))) (by decide) (backOf (W := 0) (rmsy l Z a0 hw [] b4 s4 h30 n0 Zh (Y4.ext Od6.2)) hZ (hw _ (List.mem_of_getElem? (i := 21) rfl)) (hw _ (List.mem_of_getElem? (i := 3) rfl)) (by decide) (by decide)) q50a q50c (g := (mkF m 55 #[.val (.int p1), .val (.ref a1), .val (.int (4 : Int32)), .val (.ref b4), .unset, .unset, .unset] [(.ref b4)])) rfl (by rw [hml]; rfl) (Steps.refl _) (argsL := []) (rest := []) (lenOf pd_sy rfl) rfl (by show 2 * 0 + _ ≤ _; exact Nat.le_of_eq rfl) (hb hby at_55) (fun _ _ => ⟨rfl, e30, (by decide : 1 + 0 ≤ _), (by decide : 6 + 0 ≤ _)⟩)
      dsimp only [Pt.U, Pt.locs, Pt.cells, Pt.slots] at X50 l50 y50 z50 st50 hQ50
      subst l50 y50 z50
      obtain ⟨rfl, N50q, e50⟩ := hQ50
      have N50 := Fr.app N30 N50q
      refine Goes.step (S' := T50.setTop (mkF m 58 #[.val (.int p1), .val (.ref a1), .val (.int (4 : Int32)), .val (.ref b4), .unset, .unset, .unset] [(.ref s4)])) (fun t k => st50.trans k) ?_
      refine Goes.step (S' := T50.setTop (mkF m 60 #[.val (.int p1), .val (.ref a1), .val (.int (4 : Int32)), .val (.ref b4), .val (.ref s4), .unset, .unset] [])) (fun t k => XS.astore X50.here hx rfl (hb hby at_58) rfl rfl (l' := #[.val (.int p1), .val (.ref a1), .val (.int (4 : Int32)), .val (.ref b4), .val (.ref s4), .unset, .unset]) rfl k) ?_
      refine Goes.step (S' := T50.setTop (mkF m 62 #[.val (.int p1), .val (.ref a1), .val (.int (4 : Int32)), .val (.ref b4), .val (.ref s4), .unset, .unset] [(.ref s4)])) (fun t k => XS.aload X50.here hx rfl (hb hby at_60) rfl rfl k) ?_
      obtain ⟨cq51, kq51, q51a, q51b, q51c⟩ := isOf hZ e50 (Es4.ext Od6.2)
      obtain ⟨_, _, ⟨T51, L51, k51, n51⟩, -, X51, ⟨Lc51, hQ51, l51, y51, z51⟩, st51⟩ := X50.virtualBack hx (y := (⟨"java/lang/String", "length", "()I"⟩ : MethodName)) (z := (⟨"java/lang/String", "length", "()I"⟩ : MethodName)) hown (mvT hZ (hw _ (List.mem_of_getElem? (i := 24) rfl))) (mvT hZ (hw _ (List.mem_of_getElem? (i := 25) rfl))) (notFace_of_selects (args := #[]) (mvT hZ (hw _ (List.mem_of_getElem? (i := 27) rfl)))) (mvT hZ (hw _ (List.mem_of_getElem? (i := 27) rfl))) (mvT hZ (hw _ (List.mem_of_getElem? (i := 26) rfl))) (by decide) (backOf (W := 0) (rmle l Z a0 hw [] s4 v4 (1 : Int32) cl4 cs h30 n0 Zh (SC.ext Od6.2) hcs (Es4.ext Od6.2) (Fc4.ext Od6.2) (Fv4.ext Od6.2) (Ar4.ext Od6.2) Sz4 (by decide)) hZ (hw _ (List.mem_of_getElem? (i := 29) rfl)) (hw _ (List.mem_of_getElem? (i := 28) rfl)) (by decide) (by decide)) q51a q51c (g := (mkF m 62 #[.val (.int p1), .val (.ref a1), .val (.int (4 : Int32)), .val (.ref b4), .val (.ref s4), .unset, .unset] [(.ref s4)])) rfl (by rw [hml]; rfl) (Steps.refl _) (argsL := []) (rest := []) (lenOf pd_le rfl) rfl (by show 2 * 0 + _ ≤ _; exact Nat.le_of_eq rfl) (hb hby at_62) (fun _ _ => ⟨rfl, e50, (by decide : 1 + 0 ≤ _), (by decide : 6 + 0 ≤ _)⟩)
      dsimp only [Pt.U, Pt.locs, Pt.cells, Pt.slots] at X51 l51 y51 z51 st51 hQ51
      subst l51 y51 z51
      obtain ⟨rfl, N51q, e51⟩ := hQ51
      have N51 := Fr.app N50 N51q
      refine Goes.step (S' := T51.setTop (mkF m 65 #[.val (.int p1), .val (.ref a1), .val (.int (4 : Int32)), .val (.ref b4), .val (.ref s4), .unset, .unset] [(.int (1 : Int32))])) (fun t k => st51.trans k) ?_
      refine Goes.step (S' := T51.setTop (mkF m 68 #[.val (.int p1), .val (.ref a1), .val (.int (4 : Int32)), .val (.ref b4), .val (.ref s4), .unset, .unset] [])) (fun t k => XS.ifNo X51.here hx rfl (hb hby at_65) rfl ((if0 _ _).trans (tlt (by decide : (0 : Int32) < (1 : Int32))).2.2.2) k) ?_
      refine Goes.step (S' := T51.setTop (mkF m 70 #[.val (.int p1), .val (.ref a1), .val (.int (4 : Int32)), .val (.ref b4), .val (.ref s4), .unset, .unset] [(.ref s4)])) (fun t k => XS.aload X51.here hx rfl (hb hby at_68) rfl rfl k) ?_
      refine Goes.step (S' := T51.setTop (mkF m 71 #[.val (.int p1), .val (.ref a1), .val (.int (4 : Int32)), .val (.ref b4), .val (.ref s4), .unset, .unset] [(.int (0 : Int32)), (.ref s4)])) (fun t k => XS.iconst X51.here hx rfl (hb hby at_70) k) ?_
      obtain ⟨cq52, kq52, q52a, q52b, q52c⟩ := isOf hZ e51 (Es4.ext Od6.2)
      obtain ⟨_, _, ⟨T52, L52, k52, n52⟩, -, X52, ⟨Lc52, hQ52, l52, y52, z52⟩, st52⟩ := X51.virtualBack hx (y := (⟨"java/lang/String", "charAt", "(I)C"⟩ : MethodName)) (z := (⟨"java/lang/String", "charAt", "(I)C"⟩ : MethodName)) hown (mvT hZ (hw _ (List.mem_of_getElem? (i := 40) rfl))) (mvT hZ (hw _ (List.mem_of_getElem? (i := 41) rfl))) (notFace_of_selects (args := #[]) (mvT hZ (hw _ (List.mem_of_getElem? (i := 43) rfl)))) (mvT hZ (hw _ (List.mem_of_getElem? (i := 43) rfl))) (mvT hZ (hw _ (List.mem_of_getElem? (i := 42) rfl))) (by decide) (backOf (W := 0) (rmca l Z a0 hw [] s4 (0 : Int32) v4 (1 : Int32) (62 : Int32) cl4 vF cs h30 n0 Zh (SF.ext Od6.2) hF (SC.ext Od6.2) hcs (Es4.ext Od6.2) (Fc4.ext Od6.2) (Fv4.ext Od6.2) (Ar4.ext Od6.2) Sz4 (by decide) (by decide) (by decide) by4) hZ (hw _ (List.mem_of_getElem? (i := 44) rfl)) (hw _ (List.mem_of_getElem? (i := 28) rfl)) (by decide) (by decide)) q52a q52c (g := (mkF m 71 #[.val (.int p1), .val (.ref a1), .val (.int (4 : Int32)), .val (.ref b4), .val (.ref s4), .unset, .unset] [(.int (0 : Int32)), (.ref s4)])) rfl (by rw [hml]; rfl) (Steps.refl _) (argsL := [(.int (0 : Int32))]) (rest := []) (lenOf pd_ca rfl) rfl (by show 2 * 0 + _ ≤ _; exact Nat.le_of_eq rfl) (hb hby at_71) (fun _ _ => ⟨rfl, e51, (by decide : 1 + 0 ≤ _), (by decide : 6 + 0 ≤ _)⟩)
      dsimp only [Pt.U, Pt.locs, Pt.cells, Pt.slots] at X52 l52 y52 z52 st52 hQ52
      subst l52 y52 z52
      obtain ⟨rfl, N52q, e52⟩ := hQ52
      have N52 := Fr.app N51 N52q
      refine Goes.step (S' := T52.setTop (mkF m 74 #[.val (.int p1), .val (.ref a1), .val (.int (4 : Int32)), .val (.ref b4), .val (.ref s4), .unset, .unset] [(.int ((62 : Int32) &&& (255 : Int32)))])) (fun t k => st52.trans k) ?_
      refine Goes.step (S' := T52.setTop (mkF m 76 #[.val (.int p1), .val (.ref a1), .val (.int (4 : Int32)), .val (.ref b4), .val (.ref s4), .unset, .unset] [(.int (60 : Int32)), (.int ((62 : Int32) &&& (255 : Int32)))])) (fun t k => XS.bipush X52.here hx rfl (hb hby at_74) k) ?_
      refine Goes.step (S' := T52.setTop (mkF m 79 #[.val (.int p1), .val (.ref a1), .val (.int (4 : Int32)), .val (.ref b4), .val (.ref s4), .unset, .unset] [])) (fun t k => XS.icmpNo X52.here hx rfl (hb hby at_76) rfl (feq (by decide : ¬ ((62 : Int32) &&& (255 : Int32)) = (60 : Int32))).1 k) ?_
      refine Goes.step (S' := T52.setTop (mkF m 81 #[.val (.int p1), .val (.ref a1), .val (.int (4 : Int32)), .val (.ref b4), .val (.ref s4), .unset, .unset] [(.ref s4)])) (fun t k => XS.aload X52.here hx rfl (hb hby at_79) rfl rfl k) ?_
      refine Goes.step (S' := T52.setTop (mkF m 82 #[.val (.int p1), .val (.ref a1), .val (.int (4 : Int32)), .val (.ref b4), .val (.ref s4), .unset, .unset] [(.int (0 : Int32)), (.ref s4)])) (fun t k => XS.iconst X52.here hx rfl (hb hby at_81) k) ?_
      obtain ⟨cq53, kq53, q53a, q53b, q53c⟩ := isOf hZ e52 (Es4.ext Od6.2)
      obtain ⟨_, _, ⟨T53, L53, k53, n53⟩, -, X53, ⟨Lc53, hQ53, l53, y53, z53⟩, st53⟩ := X52.virtualBack hx (y := (⟨"java/lang/String", "charAt", "(I)C"⟩ : MethodName)) (z := (⟨"java/lang/String", "charAt", "(I)C"⟩ : MethodName)) hown (mvT hZ (hw _ (List.mem_of_getElem? (i := 40) rfl))) (mvT hZ (hw _ (List.mem_of_getElem? (i := 41) rfl))) (notFace_of_selects (args := #[]) (mvT hZ (hw _ (List.mem_of_getElem? (i := 43) rfl)))) (mvT hZ (hw _ (List.mem_of_getElem? (i := 43) rfl))) (mvT hZ (hw _ (List.mem_of_getElem? (i := 42) rfl))) (by decide) (backOf (W := 0) (rmca l Z a0 hw [] s4 (0 : Int32) v4 (1 : Int32) (62 : Int32) cl4 vF cs h30 n0 Zh (SF.ext Od6.2) hF (SC.ext Od6.2) hcs (Es4.ext Od6.2) (Fc4.ext Od6.2) (Fv4.ext Od6.2) (Ar4.ext Od6.2) Sz4 (by decide) (by decide) (by decide) by4) hZ (hw _ (List.mem_of_getElem? (i := 44) rfl)) (hw _ (List.mem_of_getElem? (i := 28) rfl)) (by decide) (by decide)) q53a q53c (g := (mkF m 82 #[.val (.int p1), .val (.ref a1), .val (.int (4 : Int32)), .val (.ref b4), .val (.ref s4), .unset, .unset] [(.int (0 : Int32)), (.ref s4)])) rfl (by rw [hml]; rfl) (Steps.refl _) (argsL := [(.int (0 : Int32))]) (rest := []) (lenOf pd_ca rfl) rfl (by show 2 * 0 + _ ≤ _; exact Nat.le_of_eq rfl) (hb hby at_82) (fun _ _ => ⟨rfl, e52, (by decide : 1 + 0 ≤ _), (by decide : 6 + 0 ≤ _)⟩)
      dsimp only [Pt.U, Pt.locs, Pt.cells, Pt.slots] at X53 l53 y53 z53 st53 hQ53
      subst l53 y53 z53
      obtain ⟨rfl, N53q, e53⟩ := hQ53
      have N53 := Fr.app N52 N53q
      refine Goes.step (S' := T53.setTop (mkF m 85 #[.val (.int p1), .val (.ref a1), .val (.int (4 : Int32)), .val (.ref b4), .val (.ref s4), .unset, .unset] [(.int ((62 : Int32) &&& (255 : Int32)))])) (fun t k => st53.trans k) ?_
      refine Goes.step (S' := T53.setTop (mkF m 87 #[.val (.int p1), .val (.ref a1), .val (.int (4 : Int32)), .val (.ref b4), .val (.ref s4), .unset, .unset] [(.int (62 : Int32)), (.int ((62 : Int32) &&& (255 : Int32)))])) (fun t k => XS.bipush X53.here hx rfl (hb hby at_85) k) ?_
      refine Goes.step (S' := T53.setTop (mkF m 90 #[.val (.int p1), .val (.ref a1), .val (.int (4 : Int32)), .val (.ref b4), .val (.ref s4), .unset, .unset] [])) (fun t k => XS.icmpNo X53.here hx rfl (hb hby at_87) rfl (teq (by decide : ((62 : Int32) &&& (255 : Int32)) = (62 : Int32))).2 k) ?_
      refine Goes.step (S' := T53.setTop (mkF m 91 #[.val (.int p1), .val (.ref a1), .val (.int (4 : Int32)), .val (.ref b4), .val (.ref s4), .unset, .unset] [(.int (1 : Int32))])) (fun t k => XS.iconst X53.here hx rfl (hb hby at_90) k) ?_
      refine Goes.step (S' := T53.setTop (mkF m 95 #[.val (.int p1), .val (.ref a1), .val (.int (4 : Int32)), .val (.ref b4), .val (.ref s4), .unset, .unset] [(.int (1 : Int32))])) (fun t k => XS.goto X53.here hx rfl (pc0 := 91) (pc' := 95) rfl (hb hby at_91) (by decide) (by decide) k) ?_
      refine Goes.step (S' := T53.setTop (mkF m 97 #[.val (.int p1), .val (.ref a1), .val (.int (4 : Int32)), .val (.ref b4), .val (.ref s4), .val (.int (1 : Int32)), .unset] [])) (fun t k => XS.istore X53.here hx rfl (hb hby at_95) rfl (l' := #[.val (.int p1), .val (.ref a1), .val (.int (4 : Int32)), .val (.ref b4), .val (.ref s4), .val (.int (1 : Int32)), .unset]) rfl k) ?_
      refine Goes.step (S' := T53.setTop (mkF m 98 #[.val (.int p1), .val (.ref a1), .val (.int (4 : Int32)), .val (.ref b4), .val (.ref s4), .val (.int (1 : Int32)), .unset] [(.int (4 : Int32))])) (fun t k => XS.iloadN X53.here hx rfl (hb hby at_97) rfl k) ?_
      refine Goes.step (S' := T53.setTop (mkF m 99 #[.val (.int p1), .val (.ref a1), .val (.int (4 : Int32)), .val (.ref b4), .val (.ref s4), .val (.int (1 : Int32)), .unset] [(.int (2 : Int32)), (.int (4 : Int32))])) (fun t k => XS.iconst X53.here hx rfl (hb hby at_98) k) ?_
      refine Goes.step (S' := T53.setTop (mkF m 106 #[.val (.int p1), .val (.ref a1), .val (.int (4 : Int32)), .val (.ref b4), .val (.ref s4), .val (.int (1 : Int32)), .unset] [])) (fun t k => XS.icmpYes X53.here hx rfl (pc0 := 99) (pc' := 106) rfl (hb hby at_99) rfl (flt (by decide : ¬ (4 : Int32) < (2 : Int32))).2.1 (by decide) (by decide) k) ?_
      refine Goes.step (S' := T53.setTop (mkF m 107 #[.val (.int p1), .val (.ref a1), .val (.int (4 : Int32)), .val (.ref b4), .val (.ref s4), .val (.int (1 : Int32)), .unset] [(.int (0 : Int32))])) (fun t k => XS.iconst X53.here hx rfl (hb hby at_106) k) ?_
      refine Goes.step (S' := T53.setTop (mkF m 109 #[.val (.int p1), .val (.ref a1), .val (.int (4 : Int32)), .val (.ref b4), .val (.ref s4), .val (.int (1 : Int32)), .val (.int (0 : Int32))] [])) (fun t k => XS.istore X53.here hx rfl (hb hby at_107) rfl (l' := #[.val (.int p1), .val (.ref a1), .val (.int (4 : Int32)), .val (.ref b4), .val (.ref s4), .val (.int (1 : Int32)), .val (.int (0 : Int32))]) rfl k) ?_
      refine Goes.step (S' := T53.setTop (mkF m 110 #[.val (.int p1), .val (.ref a1), .val (.int (4 : Int32)), .val (.ref b4), .val (.ref s4), .val (.int (1 : Int32)), .val (.int (0 : Int32))] [(.ref b4)])) (fun t k => XS.aloadN X53.here hx rfl (hb hby at_109) rfl rfl k) ?_
      obtain ⟨cq54, kq54, q54a, q54b, q54c⟩ := isOf hZ e53 (E4.ext Od6.2)
      obtain ⟨_, _, ⟨T54, L54, k54, n54⟩, -, X54, ⟨Lc54, hQ54, l54, y54, z54⟩, st54⟩ := X53.virtualBack hx (y := (⟨"com/example/rbac_check/rbaccheck/policy/Condition$Operator", "isEquality", "()Z"⟩ : MethodName)) (z := (⟨"com/example/rbac_check/rbaccheck/policy/Condition$Operator", "isEquality", "()Z"⟩ : MethodName)) hown (mvT hZ (hw _ (List.mem_of_getElem? (i := 62) rfl))) (mvT hZ (hw _ (List.mem_of_getElem? (i := 63) rfl))) (notFace_of_selects (args := #[]) (mvT hZ (hw _ (List.mem_of_getElem? (i := 65) rfl)))) (mvT hZ (hw _ (List.mem_of_getElem? (i := 65) rfl))) (mvT hZ (hw _ (List.mem_of_getElem? (i := 64) rfl))) (by decide) (backOf (W := 0) (rmeq l Z a0 hw [] b4 b0 b1 h30 n0 Zh (S0.ext Od6.2) (S1.ext Od6.2)) hZ (hw _ (List.mem_of_getElem? (i := 66) rfl)) (hw _ (List.mem_of_getElem? (i := 3) rfl)) (by decide) (by decide)) q54a q54c (g := (mkF m 110 #[.val (.int p1), .val (.ref a1), .val (.int (4 : Int32)), .val (.ref b4), .val (.ref s4), .val (.int (1 : Int32)), .val (.int (0 : Int32))] [(.ref b4)])) rfl (by rw [hml]; rfl) (Steps.refl _) (argsL := []) (rest := []) (lenOf pd_eq rfl) rfl (by show 2 * 0 + _ ≤ _; exact Nat.le_of_eq rfl) (hb hby at_110) (fun _ _ => ⟨rfl, e53, (by decide : 1 + 0 ≤ _), (by decide : 6 + 0 ≤ _)⟩)
      dsimp only [Pt.U, Pt.locs, Pt.cells, Pt.slots] at X54 l54 y54 z54 st54 hQ54
      subst l54 y54 z54
      obtain ⟨rfl, N54q, e54⟩ := hQ54
      have N54 := Fr.app N53 N54q
      refine Goes.step (S' := T54.setTop (mkF m 113 #[.val (.int p1), .val (.ref a1), .val (.int (4 : Int32)), .val (.ref b4), .val (.ref s4), .val (.int (1 : Int32)), .val (.int (0 : Int32))] [(.int (own_isf b4 b0 b1))])) (fun t k => st54.trans k) ?_
      rw [own_isf_0 n40 n41]
      show Goes p e below (R0 Z p1 b0 b1 b2 b3 b4 b5 s0 s1 s2 s3 s4 s5 v0 v1 v2 v3 v4 v5 cl0 cl1 cl2 cl3 cl4 cl5 vF cs h0 n0 s) (T54.setTop (mkF m 113 #[.val (.int p1), .val (.ref a1), .val (.int (4 : Int32)), .val (.ref b4), .val (.ref s4), .val (.int (1 : Int32)), .val (.int (0 : Int32))] [(.int (0 : Int32))]))
      refine Goes.step (S' := T54.setTop (mkF m 115 #[.val (.int p1), .val (.ref a1), .val (.int (4 : Int32)), .val (.ref b4), .val (.ref s4), .val (.int (1 : Int32)), .val (.int (0 : Int32))] [(.int (0 : Int32)), (.int (0 : Int32))])) (fun t k => XS.iload X54.here hx rfl (hb hby at_113) rfl k) ?_
      refine Goes.step (S' := T54.setTop (mkF m 118 #[.val (.int p1), .val (.ref a1), .val (.int (4 : Int32)), .val (.ref b4), .val (.ref s4), .val (.int (1 : Int32)), .val (.int (0 : Int32))] [])) (fun t k => XS.icmpNo X54.here hx rfl (hb hby at_115) rfl (teq rfl).2 k) ?_
      refine Goes.step (S' := T54.setTop (mkF m 120 #[.val (.int p1), .val (.ref a1), .val (.int (4 : Int32)), .val (.ref b4), .val (.ref s4), .val (.int (1 : Int32)), .val (.int (0 : Int32))] [(.int (0 : Int32))])) (fun t k => XS.iload X54.here hx rfl (hb hby at_118) rfl k) ?_
      refine Goes.step (S' := T54.setTop (mkF m 122 #[.val (.int p1), .val (.ref a1), .val (.int (4 : Int32)), .val (.ref b4), .val (.ref s4), .val (.int (1 : Int32)), .val (.int (0 : Int32))] [(.int (1 : Int32)), (.int (0 : Int32))])) (fun t k => XS.iload X54.here hx rfl (hb hby at_120) rfl k) ?_
      refine Goes.step (S' := T54.setTop (mkF m 129 #[.val (.int p1), .val (.ref a1), .val (.int (4 : Int32)), .val (.ref b4), .val (.ref s4), .val (.int (1 : Int32)), .val (.int (0 : Int32))] [(.int (0 : Int32))])) (fun t k => XS.ifYes X54.here hx rfl (pc0 := 122) (pc' := 129) rfl (hb hby at_122) rfl ((if0 _ _).trans (feq (by decide : ¬ (1 : Int32) = (0 : Int32))).2) (by decide) (by decide) k) ?_
      refine Goes.step (S' := T54.setTop (mkF m 130 #[.val (.int p1), .val (.ref a1), .val (.int (4 : Int32)), .val (.ref b4), .val (.ref s4), .val (.int (1 : Int32)), .val (.int (0 : Int32))] [(.int (0 : Int32)), (.int (0 : Int32))])) (fun t k => XS.iconst X54.here hx rfl (hb hby at_129) k) ?_
      refine Goes.step (S' := T54.setTop (mkF m 133 #[.val (.int p1), .val (.ref a1), .val (.int (4 : Int32)), .val (.ref b4), .val (.ref s4), .val (.int (1 : Int32)), .val (.int (0 : Int32))] [])) (fun t k => XS.icmpNo X54.here hx rfl (hb hby at_130) rfl (teq rfl).2 k) ?_
      refine Goes.step (S' := T54.setTop (mkF m 134 #[.val (.int p1), .val (.ref a1), .val (.int (4 : Int32)), .val (.ref b4), .val (.ref s4), .val (.int (1 : Int32)), .val (.int (0 : Int32))] [(.int (1 : Int32))])) (fun t k => XS.iconst X54.here hx rfl (hb hby at_133) k) ?_
      refine Goes.step (S' := T54.setTop (mkF m 138 #[.val (.int p1), .val (.ref a1), .val (.int (4 : Int32)), .val (.ref b4), .val (.ref s4), .val (.int (1 : Int32)), .val (.int (0 : Int32))] [(.int (1 : Int32))])) (fun t k => XS.goto X54.here hx rfl (pc0 := 134) (pc' := 138) rfl (hb hby at_134) (by decide) (by decide) k) ?_
      obtain ⟨fs, hr, hrun, hended, hW, hsame⟩ := X54.leave (v := some (.int (1 : Int32))) (fun h => by rw [Bd.returns] at h; cases h)
      exact ⟨_, _, retN X54 hx (t := .boolean) Bd.returns (by simp) (hb hby at_138) hr, hrun, hended, _, _, rfl, ⟨rfl, N54⟩, ⟨_, rfl⟩, hW, hsame.mono (by decide) (by decide)⟩
    · refine Goes.step (S' := T30.setTop (mkF m 51 #[.val (.int p1), .val (.ref a1), .val (.int (5 : Int32)), .unset, .unset, .unset, .unset] [(.ref a1)])) (fun t k => XS.aloadN X30.here hx rfl (hb hby at_50) rfl rfl k) ?_
      refine Goes.step (S' := T30.setTop (mkF m 52 #[.val (.int p1), .val (.ref a1), .val (.int (5 : Int32)), .unset, .unset, .unset, .unset] [(.int (5 : Int32)), (.ref a1)])) (fun t k => XS.iloadN X30.here hx rfl (hb hby at_51) rfl k) ?_
      refine Goes.step (S' := T30.setTop (mkF m 53 #[.val (.int p1), .val (.ref a1), .val (.int (5 : Int32)), .unset, .unset, .unset, .unset] [(.ref b5)])) (fun t k => X30.aaload hx (j := (5 : Int32)) (v := (.ref b5)) (by rw [e30]; exact Ar.1) (State.isArrayOf_alike hZ.alike Ar.2.1) rfl Ar.2.2 (by rw [Sz]; decide) (Hs 5 (by decide)) (g := (mkF m 52 #[.val (.int p1), .val (.ref a1), .val (.int (5 : Int32)), .unset, .unset, .unset, .unset] [(.int (5 : Int32)), (.ref a1)])) rfl rfl (hb hby at_52) _ k) ?_
      refine Goes.step (S' := T30.setTop (mkF m 54 #[.val (.int p1), .val (.ref a1), .val (.int (5 : Int32)), .val (.ref b5), .unset, .unset, .unset] [])) (fun t k => XS.astoreN X30.here hx rfl (hb hby at_53) rfl rfl (l' := #[.val (.int p1), .val (.ref a1), .val (.int (5 : Int32)), .val (.ref b5), .unset, .unset, .unset]) rfl k) ?_
      refine Goes.step (S' := T30.setTop (mkF m 55 #[.val (.int p1), .val (.ref a1), .val (.int (5 : Int32)), .val (.ref b5), .unset, .unset, .unset] [(.ref b5)])) (fun t k => XS.aloadN X30.here hx rfl (hb hby at_54) rfl rfl k) ?_
      obtain ⟨cq55, kq55, q55a, q55b, q55c⟩ := isOf hZ e30 (E5.ext Od6.2)
      obtain ⟨_, _, ⟨T55, L55, k55, n55⟩, -, X55, ⟨Lc55, hQ55, l55, y55, z55⟩, st55⟩ := X30.virtualBack hx (y := (⟨"com/example/rbac_check/rbaccheck/policy/Condition$Operator", "symbol", "()Ljava/lang/String;"⟩ : MethodName)) (z := (⟨"com/example/rbac_check/rbaccheck/policy/Condition$Operator", "symbol", "()Ljava/lang/String;"⟩ : MethodName)) hown (mvT hZ (hw _ (List.mem_of_getElem? (i := 17) rfl))) (mvT hZ (hw _ (List.mem_of_getElem? (i := 18) rfl))) (notFace_of_selects (args := #[]) (mvT hZ (hw _ (List.mem_of_getElem? (i := 20) rfl)))) (mvT hZ (hw _ (List.mem_of_getElem? (i := 20) rfl))) (mvT hZ (hw _ (List.mem_of_getElem? (i := 19) rfl))) (by decide) (backOf (W := 0) (rmsy l Z a0 hw [] b5 s5 h30 n0 Zh (Y5.ext Od6.2)) hZ (hw _ (List.mem_of_getElem? (i := 21) rfl)) (hw _ (List.mem_of_getElem? (i := 3) rfl)) (by decide) (by decide)) q55a q55c (g := (mkF m 55 #[.val (.int p1), .val (.ref a1), .val (.int (5 : Int32)), .val (.ref b5), .unset, .unset, .unset] [(.ref b5)])) rfl (by rw [hml]; rfl) (Steps.refl _) (argsL := []) (rest := []) (lenOf pd_sy rfl) rfl (by show 2 * 0 + _ ≤ _; exact Nat.le_of_eq rfl) (hb hby at_55) (fun _ _ => ⟨rfl, e30, (by decide : 1 + 0 ≤ _), (by decide : 6 + 0 ≤ _)⟩)
      dsimp only [Pt.U, Pt.locs, Pt.cells, Pt.slots] at X55 l55 y55 z55 st55 hQ55
      subst l55 y55 z55
      obtain ⟨rfl, N55q, e55⟩ := hQ55
      have N55 := Fr.app N30 N55q
      refine Goes.step (S' := T55.setTop (mkF m 58 #[.val (.int p1), .val (.ref a1), .val (.int (5 : Int32)), .val (.ref b5), .unset, .unset, .unset] [(.ref s5)])) (fun t k => st55.trans k) ?_
      refine Goes.step (S' := T55.setTop (mkF m 60 #[.val (.int p1), .val (.ref a1), .val (.int (5 : Int32)), .val (.ref b5), .val (.ref s5), .unset, .unset] [])) (fun t k => XS.astore X55.here hx rfl (hb hby at_58) rfl rfl (l' := #[.val (.int p1), .val (.ref a1), .val (.int (5 : Int32)), .val (.ref b5), .val (.ref s5), .unset, .unset]) rfl k) ?_
      refine Goes.step (S' := T55.setTop (mkF m 62 #[.val (.int p1), .val (.ref a1), .val (.int (5 : Int32)), .val (.ref b5), .val (.ref s5), .unset, .unset] [(.ref s5)])) (fun t k => XS.aload X55.here hx rfl (hb hby at_60) rfl rfl k) ?_
      obtain ⟨cq56, kq56, q56a, q56b, q56c⟩ := isOf hZ e55 (Es5.ext Od6.2)
      obtain ⟨_, _, ⟨T56, L56, k56, n56⟩, -, X56, ⟨Lc56, hQ56, l56, y56, z56⟩, st56⟩ := X55.virtualBack hx (y := (⟨"java/lang/String", "length", "()I"⟩ : MethodName)) (z := (⟨"java/lang/String", "length", "()I"⟩ : MethodName)) hown (mvT hZ (hw _ (List.mem_of_getElem? (i := 24) rfl))) (mvT hZ (hw _ (List.mem_of_getElem? (i := 25) rfl))) (notFace_of_selects (args := #[]) (mvT hZ (hw _ (List.mem_of_getElem? (i := 27) rfl)))) (mvT hZ (hw _ (List.mem_of_getElem? (i := 27) rfl))) (mvT hZ (hw _ (List.mem_of_getElem? (i := 26) rfl))) (by decide) (backOf (W := 0) (rmle l Z a0 hw [] s5 v5 (2 : Int32) cl5 cs h30 n0 Zh (SC.ext Od6.2) hcs (Es5.ext Od6.2) (Fc5.ext Od6.2) (Fv5.ext Od6.2) (Ar5.ext Od6.2) Sz5 (by decide)) hZ (hw _ (List.mem_of_getElem? (i := 29) rfl)) (hw _ (List.mem_of_getElem? (i := 28) rfl)) (by decide) (by decide)) q56a q56c (g := (mkF m 62 #[.val (.int p1), .val (.ref a1), .val (.int (5 : Int32)), .val (.ref b5), .val (.ref s5), .unset, .unset] [(.ref s5)])) rfl (by rw [hml]; rfl) (Steps.refl _) (argsL := []) (rest := []) (lenOf pd_le rfl) rfl (by show 2 * 0 + _ ≤ _; exact Nat.le_of_eq rfl) (hb hby at_62) (fun _ _ => ⟨rfl, e55, (by decide : 1 + 0 ≤ _), (by decide : 6 + 0 ≤ _)⟩)
      dsimp only [Pt.U, Pt.locs, Pt.cells, Pt.slots] at X56 l56 y56 z56 st56 hQ56
      subst l56 y56 z56
      obtain ⟨rfl, N56q, e56⟩ := hQ56
      have N56 := Fr.app N55 N56q
      refine Goes.step (S' := T56.setTop (mkF m 65 #[.val (.int p1), .val (.ref a1), .val (.int (5 : Int32)), .val (.ref b5), .val (.ref s5), .unset, .unset] [(.int (2 : Int32))])) (fun t k => st56.trans k) ?_
      refine Goes.step (S' := T56.setTop (mkF m 68 #[.val (.int p1), .val (.ref a1), .val (.int (5 : Int32)), .val (.ref b5), .val (.ref s5), .unset, .unset] [])) (fun t k => XS.ifNo X56.here hx rfl (hb hby at_65) rfl ((if0 _ _).trans (tlt (by decide : (0 : Int32) < (2 : Int32))).2.2.2) k) ?_
      refine Goes.step (S' := T56.setTop (mkF m 70 #[.val (.int p1), .val (.ref a1), .val (.int (5 : Int32)), .val (.ref b5), .val (.ref s5), .unset, .unset] [(.ref s5)])) (fun t k => XS.aload X56.here hx rfl (hb hby at_68) rfl rfl k) ?_
      refine Goes.step (S' := T56.setTop (mkF m 71 #[.val (.int p1), .val (.ref a1), .val (.int (5 : Int32)), .val (.ref b5), .val (.ref s5), .unset, .unset] [(.int (0 : Int32)), (.ref s5)])) (fun t k => XS.iconst X56.here hx rfl (hb hby at_70) k) ?_
      obtain ⟨cq57, kq57, q57a, q57b, q57c⟩ := isOf hZ e56 (Es5.ext Od6.2)
      obtain ⟨_, _, ⟨T57, L57, k57, n57⟩, -, X57, ⟨Lc57, hQ57, l57, y57, z57⟩, st57⟩ := X56.virtualBack hx (y := (⟨"java/lang/String", "charAt", "(I)C"⟩ : MethodName)) (z := (⟨"java/lang/String", "charAt", "(I)C"⟩ : MethodName)) hown (mvT hZ (hw _ (List.mem_of_getElem? (i := 40) rfl))) (mvT hZ (hw _ (List.mem_of_getElem? (i := 41) rfl))) (notFace_of_selects (args := #[]) (mvT hZ (hw _ (List.mem_of_getElem? (i := 43) rfl)))) (mvT hZ (hw _ (List.mem_of_getElem? (i := 43) rfl))) (mvT hZ (hw _ (List.mem_of_getElem? (i := 42) rfl))) (by decide) (backOf (W := 0) (rmca l Z a0 hw [] s5 (0 : Int32) v5 (2 : Int32) (62 : Int32) cl5 vF cs h30 n0 Zh (SF.ext Od6.2) hF (SC.ext Od6.2) hcs (Es5.ext Od6.2) (Fc5.ext Od6.2) (Fv5.ext Od6.2) (Ar5.ext Od6.2) Sz5 (by decide) (by decide) (by decide) by5) hZ (hw _ (List.mem_of_getElem? (i := 44) rfl)) (hw _ (List.mem_of_getElem? (i := 28) rfl)) (by decide) (by decide)) q57a q57c (g := (mkF m 71 #[.val (.int p1), .val (.ref a1), .val (.int (5 : Int32)), .val (.ref b5), .val (.ref s5), .unset, .unset] [(.int (0 : Int32)), (.ref s5)])) rfl (by rw [hml]; rfl) (Steps.refl _) (argsL := [(.int (0 : Int32))]) (rest := []) (lenOf pd_ca rfl) rfl (by show 2 * 0 + _ ≤ _; exact Nat.le_of_eq rfl) (hb hby at_71) (fun _ _ => ⟨rfl, e56, (by decide : 1 + 0 ≤ _), (by decide : 6 + 0 ≤ _)⟩)
      dsimp only [Pt.U, Pt.locs, Pt.cells, Pt.slots] at X57 l57 y57 z57 st57 hQ57
      subst l57 y57 z57
      obtain ⟨rfl, N57q, e57⟩ := hQ57
      have N57 := Fr.app N56 N57q
      refine Goes.step (S' := T57.setTop (mkF m 74 #[.val (.int p1), .val (.ref a1), .val (.int (5 : Int32)), .val (.ref b5), .val (.ref s5), .unset, .unset] [(.int ((62 : Int32) &&& (255 : Int32)))])) (fun t k => st57.trans k) ?_
      refine Goes.step (S' := T57.setTop (mkF m 76 #[.val (.int p1), .val (.ref a1), .val (.int (5 : Int32)), .val (.ref b5), .val (.ref s5), .unset, .unset] [(.int (60 : Int32)), (.int ((62 : Int32) &&& (255 : Int32)))])) (fun t k => XS.bipush X57.here hx rfl (hb hby at_74) k) ?_
      refine Goes.step (S' := T57.setTop (mkF m 79 #[.val (.int p1), .val (.ref a1), .val (.int (5 : Int32)), .val (.ref b5), .val (.ref s5), .unset, .unset] [])) (fun t k => XS.icmpNo X57.here hx rfl (hb hby at_76) rfl (feq (by decide : ¬ ((62 : Int32) &&& (255 : Int32)) = (60 : Int32))).1 k) ?_
      refine Goes.step (S' := T57.setTop (mkF m 81 #[.val (.int p1), .val (.ref a1), .val (.int (5 : Int32)), .val (.ref b5), .val (.ref s5), .unset, .unset] [(.ref s5)])) (fun t k => XS.aload X57.here hx rfl (hb hby at_79) rfl rfl k) ?_
      refine Goes.step (S' := T57.setTop (mkF m 82 #[.val (.int p1), .val (.ref a1), .val (.int (5 : Int32)), .val (.ref b5), .val (.ref s5), .unset, .unset] [(.int (0 : Int32)), (.ref s5)])) (fun t k => XS.iconst X57.here hx rfl (hb hby at_81) k) ?_
      obtain ⟨cq58, kq58, q58a, q58b, q58c⟩ := isOf hZ e57 (Es5.ext Od6.2)
      obtain ⟨_, _, ⟨T58, L58, k58, n58⟩, -, X58, ⟨Lc58, hQ58, l58, y58, z58⟩, st58⟩ := X57.virtualBack hx (y := (⟨"java/lang/String", "charAt", "(I)C"⟩ : MethodName)) (z := (⟨"java/lang/String", "charAt", "(I)C"⟩ : MethodName)) hown (mvT hZ (hw _ (List.mem_of_getElem? (i := 40) rfl))) (mvT hZ (hw _ (List.mem_of_getElem? (i := 41) rfl))) (notFace_of_selects (args := #[]) (mvT hZ (hw _ (List.mem_of_getElem? (i := 43) rfl)))) (mvT hZ (hw _ (List.mem_of_getElem? (i := 43) rfl))) (mvT hZ (hw _ (List.mem_of_getElem? (i := 42) rfl))) (by decide) (backOf (W := 0) (rmca l Z a0 hw [] s5 (0 : Int32) v5 (2 : Int32) (62 : Int32) cl5 vF cs h30 n0 Zh (SF.ext Od6.2) hF (SC.ext Od6.2) hcs (Es5.ext Od6.2) (Fc5.ext Od6.2) (Fv5.ext Od6.2) (Ar5.ext Od6.2) Sz5 (by decide) (by decide) (by decide) by5) hZ (hw _ (List.mem_of_getElem? (i := 44) rfl)) (hw _ (List.mem_of_getElem? (i := 28) rfl)) (by decide) (by decide)) q58a q58c (g := (mkF m 82 #[.val (.int p1), .val (.ref a1), .val (.int (5 : Int32)), .val (.ref b5), .val (.ref s5), .unset, .unset] [(.int (0 : Int32)), (.ref s5)])) rfl (by rw [hml]; rfl) (Steps.refl _) (argsL := [(.int (0 : Int32))]) (rest := []) (lenOf pd_ca rfl) rfl (by show 2 * 0 + _ ≤ _; exact Nat.le_of_eq rfl) (hb hby at_82) (fun _ _ => ⟨rfl, e57, (by decide : 1 + 0 ≤ _), (by decide : 6 + 0 ≤ _)⟩)
      dsimp only [Pt.U, Pt.locs, Pt.cells, Pt.slots] at X58 l58 y58 z58 st58 hQ58
      subst l58 y58 z58
      obtain ⟨rfl, N58q, e58⟩ := hQ58
      have N58 := Fr.app N57 N58q
      refine Goes.step (S' := T58.setTop (mkF m 85 #[.val (.int p1), .val (.ref a1), .val (.int (5 : Int32)), .val (.ref b5), .val (.ref s5), .unset, .unset] [(.int ((62 : Int32) &&& (255 : Int32)))])) (fun t k => st58.trans k) ?_
      refine Goes.step (S' := T58.setTop (mkF m 87 #[.val (.int p1), .val (.ref a1), .val (.int (5 : Int32)), .val (.ref b5), .val (.ref s5), .unset, .unset] [(.int (62 : Int32)), (.int ((62 : Int32) &&& (255 : Int32)))])) (fun t k => XS.bipush X58.here hx rfl (hb hby at_85) k) ?_
      refine Goes.step (S' := T58.setTop (mkF m 90 #[.val (.int p1), .val (.ref a1), .val (.int (5 : Int32)), .val (.ref b5), .val (.ref s5), .unset, .unset] [])) (fun t k => XS.icmpNo X58.here hx rfl (hb hby at_87) rfl (teq (by decide : ((62 : Int32) &&& (255 : Int32)) = (62 : Int32))).2 k) ?_
      refine Goes.step (S' := T58.setTop (mkF m 91 #[.val (.int p1), .val (.ref a1), .val (.int (5 : Int32)), .val (.ref b5), .val (.ref s5), .unset, .unset] [(.int (1 : Int32))])) (fun t k => XS.iconst X58.here hx rfl (hb hby at_90) k) ?_
      refine Goes.step (S' := T58.setTop (mkF m 95 #[.val (.int p1), .val (.ref a1), .val (.int (5 : Int32)), .val (.ref b5), .val (.ref s5), .unset, .unset] [(.int (1 : Int32))])) (fun t k => XS.goto X58.here hx rfl (pc0 := 91) (pc' := 95) rfl (hb hby at_91) (by decide) (by decide) k) ?_
      refine Goes.step (S' := T58.setTop (mkF m 97 #[.val (.int p1), .val (.ref a1), .val (.int (5 : Int32)), .val (.ref b5), .val (.ref s5), .val (.int (1 : Int32)), .unset] [])) (fun t k => XS.istore X58.here hx rfl (hb hby at_95) rfl (l' := #[.val (.int p1), .val (.ref a1), .val (.int (5 : Int32)), .val (.ref b5), .val (.ref s5), .val (.int (1 : Int32)), .unset]) rfl k) ?_
      refine Goes.step (S' := T58.setTop (mkF m 98 #[.val (.int p1), .val (.ref a1), .val (.int (5 : Int32)), .val (.ref b5), .val (.ref s5), .val (.int (1 : Int32)), .unset] [(.int (5 : Int32))])) (fun t k => XS.iloadN X58.here hx rfl (hb hby at_97) rfl k) ?_
      refine Goes.step (S' := T58.setTop (mkF m 99 #[.val (.int p1), .val (.ref a1), .val (.int (5 : Int32)), .val (.ref b5), .val (.ref s5), .val (.int (1 : Int32)), .unset] [(.int (2 : Int32)), (.int (5 : Int32))])) (fun t k => XS.iconst X58.here hx rfl (hb hby at_98) k) ?_
      refine Goes.step (S' := T58.setTop (mkF m 106 #[.val (.int p1), .val (.ref a1), .val (.int (5 : Int32)), .val (.ref b5), .val (.ref s5), .val (.int (1 : Int32)), .unset] [])) (fun t k => XS.icmpYes X58.here hx rfl (pc0 := 99) (pc' := 106) rfl (hb hby at_99) rfl (flt (by decide : ¬ (5 : Int32) < (2 : Int32))).2.1 (by decide) (by decide) k) ?_
      refine Goes.step (S' := T58.setTop (mkF m 107 #[.val (.int p1), .val (.ref a1), .val (.int (5 : Int32)), .val (.ref b5), .val (.ref s5), .val (.int (1 : Int32)), .unset] [(.int (0 : Int32))])) (fun t k => XS.iconst X58.here hx rfl (hb hby at_106) k) ?_
      refine Goes.step (S' := T58.setTop (mkF m 109 #[.val (.int p1), .val (.ref a1), .val (.int (5 : Int32)), .val (.ref b5), .val (.ref s5), .val (.int (1 : Int32)), .val (.int (0 : Int32))] [])) (fun t k => XS.istore X58.here hx rfl (hb hby at_107) rfl (l' := #[.val (.int p1), .val (.ref a1), .val (.int (5 : Int32)), .val (.ref b5), .val (.ref s5), .val (.int (1 : Int32)), .val (.int (0 : Int32))]) rfl k) ?_
      refine Goes.step (S' := T58.setTop (mkF m 110 #[.val (.int p1), .val (.ref a1), .val (.int (5 : Int32)), .val (.ref b5), .val (.ref s5), .val (.int (1 : Int32)), .val (.int (0 : Int32))] [(.ref b5)])) (fun t k => XS.aloadN X58.here hx rfl (hb hby at_109) rfl rfl k) ?_
      obtain ⟨cq59, kq59, q59a, q59b, q59c⟩ := isOf hZ e58 (E5.ext Od6.2)
      obtain ⟨_, _, ⟨T59, L59, k59, n59⟩, -, X59, ⟨Lc59, hQ59, l59, y59, z59⟩, st59⟩ := X58.virtualBack hx (y := (⟨"com/example/rbac_check/rbaccheck/policy/Condition$Operator", "isEquality", "()Z"⟩ : MethodName)) (z := (⟨"com/example/rbac_check/rbaccheck/policy/Condition$Operator", "isEquality", "()Z"⟩ : MethodName)) hown (mvT hZ (hw _ (List.mem_of_getElem? (i := 62) rfl))) (mvT hZ (hw _ (List.mem_of_getElem? (i := 63) rfl))) (notFace_of_selects (args := #[]) (mvT hZ (hw _ (List.mem_of_getElem? (i := 65) rfl)))) (mvT hZ (hw _ (List.mem_of_getElem? (i := 65) rfl))) (mvT hZ (hw _ (List.mem_of_getElem? (i := 64) rfl))) (by decide) (backOf (W := 0) (rmeq l Z a0 hw [] b5 b0 b1 h30 n0 Zh (S0.ext Od6.2) (S1.ext Od6.2)) hZ (hw _ (List.mem_of_getElem? (i := 66) rfl)) (hw _ (List.mem_of_getElem? (i := 3) rfl)) (by decide) (by decide)) q59a q59c (g := (mkF m 110 #[.val (.int p1), .val (.ref a1), .val (.int (5 : Int32)), .val (.ref b5), .val (.ref s5), .val (.int (1 : Int32)), .val (.int (0 : Int32))] [(.ref b5)])) rfl (by rw [hml]; rfl) (Steps.refl _) (argsL := []) (rest := []) (lenOf pd_eq rfl) rfl (by show 2 * 0 + _ ≤ _; exact Nat.le_of_eq rfl) (hb hby at_110) (fun _ _ => ⟨rfl, e58, (by decide : 1 + 0 ≤ _), (by decide : 6 + 0 ≤ _)⟩)
      dsimp only [Pt.U, Pt.locs, Pt.cells, Pt.slots] at X59 l59 y59 z59 st59 hQ59
      subst l59 y59 z59
      obtain ⟨rfl, N59q, e59⟩ := hQ59
      have N59 := Fr.app N58 N59q
      refine Goes.step (S' := T59.setTop (mkF m 113 #[.val (.int p1), .val (.ref a1), .val (.int (5 : Int32)), .val (.ref b5), .val (.ref s5), .val (.int (1 : Int32)), .val (.int (0 : Int32))] [(.int (own_isf b5 b0 b1))])) (fun t k => st59.trans k) ?_
      rw [own_isf_0 n50 n51]
      show Goes p e below (R0 Z p1 b0 b1 b2 b3 b4 b5 s0 s1 s2 s3 s4 s5 v0 v1 v2 v3 v4 v5 cl0 cl1 cl2 cl3 cl4 cl5 vF cs h0 n0 s) (T59.setTop (mkF m 113 #[.val (.int p1), .val (.ref a1), .val (.int (5 : Int32)), .val (.ref b5), .val (.ref s5), .val (.int (1 : Int32)), .val (.int (0 : Int32))] [(.int (0 : Int32))]))
      refine Goes.step (S' := T59.setTop (mkF m 115 #[.val (.int p1), .val (.ref a1), .val (.int (5 : Int32)), .val (.ref b5), .val (.ref s5), .val (.int (1 : Int32)), .val (.int (0 : Int32))] [(.int (0 : Int32)), (.int (0 : Int32))])) (fun t k => XS.iload X59.here hx rfl (hb hby at_113) rfl k) ?_
      refine Goes.step (S' := T59.setTop (mkF m 118 #[.val (.int p1), .val (.ref a1), .val (.int (5 : Int32)), .val (.ref b5), .val (.ref s5), .val (.int (1 : Int32)), .val (.int (0 : Int32))] [])) (fun t k => XS.icmpNo X59.here hx rfl (hb hby at_115) rfl (teq rfl).2 k) ?_
      refine Goes.step (S' := T59.setTop (mkF m 120 #[.val (.int p1), .val (.ref a1), .val (.int (5 : Int32)), .val (.ref b5), .val (.ref s5), .val (.int (1 : Int32)), .val (.int (0 : Int32))] [(.int (0 : Int32))])) (fun t k => XS.iload X59.here hx rfl (hb hby at_118) rfl k) ?_
      refine Goes.step (S' := T59.setTop (mkF m 122 #[.val (.int p1), .val (.ref a1), .val (.int (5 : Int32)), .val (.ref b5), .val (.ref s5), .val (.int (1 : Int32)), .val (.int (0 : Int32))] [(.int (1 : Int32)), (.int (0 : Int32))])) (fun t k => XS.iload X59.here hx rfl (hb hby at_120) rfl k) ?_
      refine Goes.step (S' := T59.setTop (mkF m 129 #[.val (.int p1), .val (.ref a1), .val (.int (5 : Int32)), .val (.ref b5), .val (.ref s5), .val (.int (1 : Int32)), .val (.int (0 : Int32))] [(.int (0 : Int32))])) (fun t k => XS.ifYes X59.here hx rfl (pc0 := 122) (pc' := 129) rfl (hb hby at_122) rfl ((if0 _ _).trans (feq (by decide : ¬ (1 : Int32) = (0 : Int32))).2) (by decide) (by decide) k) ?_
      refine Goes.step (S' := T59.setTop (mkF m 130 #[.val (.int p1), .val (.ref a1), .val (.int (5 : Int32)), .val (.ref b5), .val (.ref s5), .val (.int (1 : Int32)), .val (.int (0 : Int32))] [(.int (0 : Int32)), (.int (0 : Int32))])) (fun t k => XS.iconst X59.here hx rfl (hb hby at_129) k) ?_
      refine Goes.step (S' := T59.setTop (mkF m 133 #[.val (.int p1), .val (.ref a1), .val (.int (5 : Int32)), .val (.ref b5), .val (.ref s5), .val (.int (1 : Int32)), .val (.int (0 : Int32))] [])) (fun t k => XS.icmpNo X59.here hx rfl (hb hby at_130) rfl (teq rfl).2 k) ?_
      refine Goes.step (S' := T59.setTop (mkF m 134 #[.val (.int p1), .val (.ref a1), .val (.int (5 : Int32)), .val (.ref b5), .val (.ref s5), .val (.int (1 : Int32)), .val (.int (0 : Int32))] [(.int (1 : Int32))])) (fun t k => XS.iconst X59.here hx rfl (hb hby at_133) k) ?_
      refine Goes.step (S' := T59.setTop (mkF m 138 #[.val (.int p1), .val (.ref a1), .val (.int (5 : Int32)), .val (.ref b5), .val (.ref s5), .val (.int (1 : Int32)), .val (.int (0 : Int32))] [(.int (1 : Int32))])) (fun t k => XS.goto X59.here hx rfl (pc0 := 134) (pc' := 138) rfl (hb hby at_134) (by decide) (by decide) k) ?_
      obtain ⟨fs, hr, hrun, hended, hW, hsame⟩ := X59.leave (v := some (.int (1 : Int32))) (fun h => by rw [Bd.returns] at h; cases h)
      exact ⟨_, _, retN X59 hx (t := .boolean) Bd.returns (by simp) (hb hby at_138) hr, hrun, hended, _, _, rfl, ⟨rfl, N59⟩, ⟨_, rfl⟩, hW, hsame.mono (by decide) (by decide)⟩
  exact K50 _ (own_six p1)
set_option maxRecDepth 65536 in
set_option maxHeartbeats 40000000 in
theorem comes_1 {Post : Tables → Env → Array Value → State → Outcome → State → Prop} (hpost : ∀ tb e args s v u, (limb_1_1.after args s (.returned v) u = true ∧ limb_1_2.after args s (.returned v) u = true ∧ True) → FrameEnd s (.returned v) u (Jvm.fieldLocs frame_1_writes args s ++ Jvm.arrayLocs frame_1_arrays args s ++ Jvm.staticLocs frame_1_statics s) 16 128 → Post tb e args s (.returned v) u) :
    ArmFor flags0 classFile x code maxLocals ret World_1 tables_1 room_1 Calls_1 rest_1 Pre_1 Post := by
  intro l hfl _ _ p e ha hc hk s m args below hf hA hF happ hP
  obtain ⟨hcalls, hrest, hpre⟩ := hP
  obtain ⟨-, -, -, hnamed, -, -, -, hat⟩ := (Spec.applies_iff hf).mp happ
  obtain ⟨hg, hn⟩ := and_e (Cond.before_iff.mp (show (Jvm.Cond.and given_1 narrow_1).before args s = true from hpre))
  obtain ⟨h1, ha0⟩ := and_e hg
  obtain ⟨w0, rfl⟩ : ∃ w0 : Value, args = #[w0] := by
    have hs : args.size = 1 := by simpa [Cond.value, given_1] using h1
    obtain ⟨L⟩ := args
    match L, hs with
    | [w0], _ => exact ⟨w0, rfl⟩
  have hw := fun d (hd : d ∈ tables_1) => atoms_spec (ws := Jvm.Cond.code x code maxLocals ret :: tables_1) hat d (List.mem_cons_of_mem _ hd)
  have hfit : Fit s := fun {y c} hc i hi => by
    obtain ⟨ha, rfl⟩ := Array.getElem?_eq_some_iff.mp hc
    have q := List.all_eq_true.mp ((Array.all_eq_true_iff_forall_mem.mp hF) _ (Array.getElem_mem ha)) i (List.mem_range.mpr hi)
    simpa [Array.getElem?_eq_getElem hi] using q
  obtain ⟨i0, ei0⟩ := is_v ha0
  obtain rfl : w0 = (.int i0) := Option.some.inj ei0
  obtain ⟨m0, hn⟩ := and_e hn
  obtain ⟨m1, hn⟩ := and_e hn
  obtain ⟨m2, hn⟩ := and_e hn
  obtain ⟨m3, hn⟩ := and_e hn
  obtain ⟨m4, hn⟩ := and_e hn
  obtain ⟨m5, hn⟩ := and_e hn
  obtain ⟨m6, hn⟩ := and_e hn
  obtain ⟨m7, hn⟩ := and_e hn
  obtain ⟨m8, hn⟩ := and_e hn
  obtain ⟨m9, hn⟩ := and_e hn
  obtain ⟨m10, hn⟩ := and_e hn
  obtain ⟨m11, hn⟩ := and_e hn
  obtain ⟨m12, hn⟩ := and_e hn
  obtain ⟨m13, hn⟩ := and_e hn
  obtain ⟨m14, hn⟩ := and_e hn
  obtain ⟨m15, hn⟩ := and_e hn
  obtain ⟨m16, hn⟩ := and_e hn
  obtain ⟨m17, hn⟩ := and_e hn
  obtain ⟨m18, hn⟩ := and_e hn
  obtain ⟨m19, hn⟩ := and_e hn
  obtain ⟨m20, hn⟩ := and_e hn
  obtain ⟨m21, hn⟩ := and_e hn
  obtain ⟨m22, hn⟩ := and_e hn
  obtain ⟨m23, hn⟩ := and_e hn
  obtain ⟨m24, hn⟩ := and_e hn
  obtain ⟨m25, hn⟩ := and_e hn
  obtain ⟨m26, hn⟩ := and_e hn
  obtain ⟨m27, hn⟩ := and_e hn
  obtain ⟨m28, hn⟩ := and_e hn
  obtain ⟨m29, hn⟩ := and_e hn
  obtain ⟨m30, hn⟩ := and_e hn
  obtain ⟨m31, hn⟩ := and_e hn
  obtain ⟨m32, hn⟩ := and_e hn
  obtain ⟨m33, hn⟩ := and_e hn
  obtain ⟨m34, hn⟩ := and_e hn
  obtain ⟨m35, hn⟩ := and_e hn
  obtain ⟨m36, hn⟩ := and_e hn
  obtain ⟨m37, hn⟩ := and_e hn
  obtain ⟨m38, hn⟩ := and_e hn
  obtain ⟨m39, hn⟩ := and_e hn
  obtain ⟨m40, hn⟩ := and_e hn
  obtain ⟨m41, hn⟩ := and_e hn
  obtain ⟨m42, hn⟩ := and_e hn
  obtain ⟨m43, hn⟩ := and_e hn
  have m44 := hn
  obtain ⟨hsets, hown0⟩ := atoms_of _ (rest_1_c_eq ▸ (show rest_1_c.before _ s = true from hrest))
  have nc := not_v (Cond.before_iff.mp (hsets _ (List.mem_of_getElem? (i := 2) rfl)))
  obtain ⟨cs, ecs⟩ := is_v (Cond.before_iff.mp (hsets _ (List.mem_of_getElem? (i := 1) rfl)))
  have SC : Sta s s.heap "java/lang/String" "COMPACT_STRINGS" "Z" (.int cs) := Sta.start ecs (Or.inl (hsets _ (List.mem_of_getElem? (i := 0) rfl)))
  obtain ⟨vF, eF, hF⟩ := isR_v (Cond.before_iff.mp (hsets _ (List.mem_of_getElem? (i := 8) rfl)))
  have SF : Sta s s.heap "jdk/internal/util/Preconditions" "SIOOBE_FORMATTER" "Ljava/util/function/BiFunction;" vF := Sta.start eF (Or.inl (hsets _ (List.mem_of_getElem? (i := 7) rfl)))
  have hcs : ¬ (cs = (0 : Int32)) := gotF (Cond.eq_ints ecs (Term.int_eval (0))) nc
  obtain ⟨b0, ev0⟩ := exa_v m0
  have E0 := Exa.start ev0 m0
  have S0 : Sta s s.heap "com/example/rbac_check/rbaccheck/policy/Condition$Operator" "EQUAL" "Lcom/example/rbac_check/rbaccheck/policy/Condition$Operator;" (.ref b0) := Sta.start ev0 (Or.inr ⟨(hw _ (List.mem_of_getElem? (i := 3) rfl)), (hw _ (List.mem_of_getElem? (i := 4) rfl))⟩)
  have O0 := own_fld ev0 (own_eqI m17)
  obtain ⟨s0, es0⟩ := exa_v m6
  have Es0 := Exa.start es0 m6
  have Y0 := own_fld ev0 es0
  obtain ⟨v0, evv0⟩ := arr_v m7
  have Fv0 := own_fld es0 evv0
  obtain ⟨cl0, Ar0⟩ := Arr.start evv0 m7
  have Fc0 := own_fld es0 (own_eqI m9)
  have Sz0 := (own_len evv0 (Arr.fin (Vm.Alike.refl _) Ar0) (own_eqI m8)).1
  have by0 := (elem_in (own_eqI m10) evv0 (Term.int_eval (0)) Ar0.1).2
  obtain ⟨b1, ev1⟩ := exa_v m1
  have E1 := Exa.start ev1 m1
  have S1 : Sta s s.heap "com/example/rbac_check/rbaccheck/policy/Condition$Operator" "NOT_EQUAL" "Lcom/example/rbac_check/rbaccheck/policy/Condition$Operator;" (.ref b1) := Sta.start ev1 (Or.inr ⟨(hw _ (List.mem_of_getElem? (i := 3) rfl)), (hw _ (List.mem_of_getElem? (i := 7) rfl))⟩)
  have O1 := own_fld ev1 (own_eqI m18)
  obtain ⟨s1, es1⟩ := exa_v m25
  have Es1 := Exa.start es1 m25
  have Y1 := own_fld ev1 es1
  obtain ⟨v1, evv1⟩ := arr_v m26
  have Fv1 := own_fld es1 evv1
  obtain ⟨cl1, Ar1⟩ := Arr.start evv1 m26
  have Fc1 := own_fld es1 (own_eqI m28)
  have Sz1 := (own_len evv1 (Arr.fin (Vm.Alike.refl _) Ar1) (own_eqI m27)).1
  have by1 := (elem_in (own_eqI m29) evv1 (Term.int_eval (0)) Ar1.1).2
  obtain ⟨b2, ev2⟩ := exa_v m2
  have E2 := Exa.start ev2 m2
  have S2 : Sta s s.heap "com/example/rbac_check/rbaccheck/policy/Condition$Operator" "LESS" "Lcom/example/rbac_check/rbaccheck/policy/Condition$Operator;" (.ref b2) := Sta.start ev2 (Or.inr ⟨(hw _ (List.mem_of_getElem? (i := 3) rfl)), (hw _ (List.mem_of_getElem? (i := 9) rfl))⟩)
  have O2 := own_fld ev2 (own_eqI m24)
  obtain ⟨s2, es2⟩ := exa_v m19
  have Es2 := Exa.start es2 m19
  have Y2 := own_fld ev2 es2
  obtain ⟨v2, evv2⟩ := arr_v m20
  have Fv2 := own_fld es2 evv2
  obtain ⟨cl2, Ar2⟩ := Arr.start evv2 m20
  have Fc2 := own_fld es2 (own_eqI m22)
  have Sz2 := (own_len evv2 (Arr.fin (Vm.Alike.refl _) Ar2) (own_eqI m21)).1
  have by2 := (elem_in (own_eqI m23) evv2 (Term.int_eval (0)) Ar2.1).2
  obtain ⟨b3, ev3⟩ := exa_v m3
  have E3 := Exa.start ev3 m3
  have S3 : Sta s s.heap "com/example/rbac_check/rbaccheck/policy/Condition$Operator" "AT_MOST" "Lcom/example/rbac_check/rbaccheck/policy/Condition$Operator;" (.ref b3) := Sta.start ev3 (Or.inr ⟨(hw _ (List.mem_of_getElem? (i := 3) rfl)), (hw _ (List.mem_of_getElem? (i := 11) rfl))⟩)
  have O3 := own_fld ev3 (own_eqI m16)
  obtain ⟨s3, es3⟩ := exa_v m11
  have Es3 := Exa.start es3 m11
  have Y3 := own_fld ev3 es3
  obtain ⟨v3, evv3⟩ := arr_v m12
  have Fv3 := own_fld es3 evv3
  obtain ⟨cl3, Ar3⟩ := Arr.start evv3 m12
  have Fc3 := own_fld es3 (own_eqI m14)
  have Sz3 := (own_len evv3 (Arr.fin (Vm.Alike.refl _) Ar3) (own_eqI m13)).1
  have by3 := (elem_in (own_eqI m15) evv3 (Term.int_eval (0)) Ar3.1).2
  obtain ⟨b4, ev4⟩ := exa_v m4
  have E4 := Exa.start ev4 m4
  have S4 : Sta s s.heap "com/example/rbac_check/rbaccheck/policy/Condition$Operator" "GREATER" "Lcom/example/rbac_check/rbaccheck/policy/Condition$Operator;" (.ref b4) := Sta.start ev4 (Or.inr ⟨(hw _ (List.mem_of_getElem? (i := 3) rfl)), (hw _ (List.mem_of_getElem? (i := 13) rfl))⟩)
  have O4 := own_fld ev4 (own_eqI m41)
  obtain ⟨s4, es4⟩ := exa_v m36
  have Es4 := Exa.start es4 m36
  have Y4 := own_fld ev4 es4
  obtain ⟨v4, evv4⟩ := arr_v m37
  have Fv4 := own_fld es4 evv4
  obtain ⟨cl4, Ar4⟩ := Arr.start evv4 m37
  have Fc4 := own_fld es4 (own_eqI m39)
  have Sz4 := (own_len evv4 (Arr.fin (Vm.Alike.refl _) Ar4) (own_eqI m38)).1
  have by4 := (elem_in (own_eqI m40) evv4 (Term.int_eval (0)) Ar4.1).2
  obtain ⟨b5, ev5⟩ := exa_v m5
  have E5 := Exa.start ev5 m5
  have S5 : Sta s s.heap "com/example/rbac_check/rbaccheck/policy/Condition$Operator" "AT_LEAST" "Lcom/example/rbac_check/rbaccheck/policy/Condition$Operator;" (.ref b5) := Sta.start ev5 (Or.inr ⟨(hw _ (List.mem_of_getElem? (i := 3) rfl)), (hw _ (List.mem_of_getElem? (i := 15) rfl))⟩)
  have O5 := own_fld ev5 (own_eqI m35)
  obtain ⟨s5, es5⟩ := exa_v m30
  have Es5 := Exa.start es5 m30
  have Y5 := own_fld ev5 es5
  obtain ⟨v5, evv5⟩ := arr_v m31
  have Fv5 := own_fld es5 evv5
  obtain ⟨cl5, Ar5⟩ := Arr.start evv5 m31
  have Fc5 := own_fld es5 (own_eqI m33)
  have Sz5 := (own_len evv5 (Arr.fin (Vm.Alike.refl _) Ar5) (own_eqI m32)).1
  have by5 := (elem_in (own_eqI m34) evv5 (Term.int_eval (0)) Ar5.1).2
  obtain ⟨n, o, h1, h2, h3, _, L, rfl, ⟨rfl, N⟩, hq⟩ := rm0 l s _ hw tables_1 i0 b0 b1 b2 b3 b4 b5 s0 s1 s2 s3 s4 s5 v0 v1 v2 v3 v4 v5 cl0 cl1 cl2 cl3 cl4 cl5 vF cs s.heap s.heap.size (Nat.le_refl _) (Old.start s) SF hF SC hcs S0 E0 Y0 Es0 Fc0 Fv0 Ar0 Sz0 by0 S1 E1 Y1 Es1 Fc1 Fv1 Ar1 Sz1 by1 S2 E2 Y2 Es2 Fc2 Fv2 Ar2 Sz2 by2 S3 E3 Y3 Es3 Fc3 Fv3 Ar3 Sz3 by3 S4 E4 Y4 Es4 Fc4 Fv4 Ar4 Sz4 by4 S5 E5 Y5 Es5 Fc5 Fv5 Ar5 Sz5 by5 (O1.ne O0 (fun q => absurd (Value.int.inj q) (by decide))) (O2.ne O0 (fun q => absurd (Value.int.inj q) (by decide))) (O2.ne O1 (fun q => absurd (Value.int.inj q) (by decide))) (O3.ne O0 (fun q => absurd (Value.int.inj q) (by decide))) (O3.ne O1 (fun q => absurd (Value.int.inj q) (by decide))) (O4.ne O0 (fun q => absurd (Value.int.inj q) (by decide))) (O4.ne O1 (fun q => absurd (Value.int.inj q) (by decide))) (O5.ne O0 (fun q => absurd (Value.int.inj q) (by decide))) (O5.ne O1 (fun q => absurd (Value.int.inj q) (by decide))) p e ha hc hk s m _ below hf ((Spec.applies_iff_loose hf).mp happ).1 ⟨rfl, State.Warmed39.refl s, rfl⟩ trivial
  refine ⟨n, _, h1, h2, h3, hpost _ _ _ _ _ _ ⟨Cond.after_iff.mpr rfl, Cond.after_iff.mpr (eq_i res_at (Term.int_eval (1)) rfl), trivial⟩ ⟨hq.1, hq.2.1, (hq.2.2.sift fun y hy => Or.inr (N y hy)).mono (by decide) (by decide)⟩⟩
theorem main_1_1 : Claimed_1_1 := comes_1 fun _ _ _ _ _ _ h hF => ⟨h.1, hF⟩
theorem main_1_2 : Claimed_1_2 := comes_1 fun _ _ _ _ _ _ h hF => ⟨h.2.1, hF⟩
end Jvm.Pilot.@@N@@
namespace Jvm.Pilot.@@N@@
open Jvm Jvm.ClassFile Sem Op Lib Jvm.Free Jvm.Stand Jvm.Pilot.@@N@@.Jvm.D
/-! MADE BY PROGRAM (witnessworld.py) out of the Statement's table words and the real class files: 19 classes; the members and pool entries that the words name. The judged class is class 1, her method 1. -/
namespace start1
open Jvm.ClassFile
def u (s : String) : CpInfo := .utf8 (stringToUtf16 s)
/-- a pool by its gaps: so many unusable entries, then the entry; so many at the end -/
def gap : Nat → List CpInfo → List CpInfo
  | 0, r => r
  | n + 1, r => .unusable :: gap n r
def poolList (es : List (Nat × CpInfo)) (last : Nat) : List CpInfo := es.foldr (fun e r => gap e.1 (e.2 :: r)) (gap last [])
def pool (es : List (Nat × CpInfo)) (last : Nat) : Array CpInfo := ⟨poolList es last⟩
def fileOf (pool : Array CpInfo) (this : Nat) (attrs : Array Attribute := #[]) (ms : Array MethodInfo := #[]) (fl : Nat := 33) (sup : Nat := 0) (ifs : Array Nat := #[]) (fds : Array FieldInfo := #[]) : ClassFile where
  minorVersion := 0
  majorVersion := 65
  constantPool := pool
  accessFlags := fl
  thisClass := this
  superClass := sup
  interfaces := ifs
  fields := fds
  methods := ms
  attributes := attrs
def plain (name : String) (sup : Option ClassId) : Class where
  name := name
  kind := .ordinary
  loader := none
  accessFlags := 33
  super := sup
  interfaces := #[]
  cf := none
  fields := #[]
  methods := #[]
  instanceTypes := #[]
  staticTypes := #[]
  resolved := #[]
  callSites := []
  init := .initialized
  statics := none
  mirror := none

def pool0 : Array CpInfo := pool [(5, u "<init>"), (0, u "()V"), (1, .class_ 10), (1, u "java/lang/Object")] 113

def k0m0 : Method := { name := "<init>", desc := "()V", sig := { parameters := [], returnType := none }, accessFlags := 1, code := none }
/-- java/lang/Object -/
def k0 : Class := { plain "java/lang/Object" none with
  accessFlags := 33
  interfaces := #[]
  cf := some (fileOf pool0 8 #[] #[{ accessFlags := 1, nameIndex := 5, descriptorIndex := 6, attributes := #[] }] 33 0 #[] #[])
  fields := #[]
  methods := #[k0m0]
  instanceTypes := #[]
  staticTypes := #[]
  resolved := Array.replicate 124 none
  statics := none }

def pool1 : Array CpInfo := pool [(2, .class_ 4), (1, u "java/lang/Object"), (0, u "<init>"), (0, u "()V"), (0, .class_ 8), (0, u "com/example/rbac_check/rbaccheck/policy/Condition$Operator"), (0, .fieldref 7 10), (0, .nameAndType 11 12), (0, u "EQUAL"), (0, u "Lcom/example/rbac_check/rbaccheck/policy/Condition$Operator;"), (0, .fieldref 7 14), (0, .nameAndType 15 12), (0, u "NOT_EQUAL"), (0, .fieldref 7 17), (0, .nameAndType 18 12), (0, u "LESS"), (0, .fieldref 7 20), (0, .nameAndType 21 12), (0, u "AT_MOST"), (0, .fieldref 7 23), (0, .nameAndType 24 12), (0, u "GREATER"), (0, .fieldref 7 26), (0, .nameAndType 27 12), (0, u "AT_LEAST"), (0, .integer 2147483647), (0, .methodref 7 30), (0, .nameAndType 31 32), (0, u "symbol"), (0, u "()Ljava/lang/String;"), (0, .methodref 34 35), (0, .class_ 36), (0, .nameAndType 37 38), (0, u "java/lang/String"), (0, u "length"), (0, u "()I"), (0, .methodref 34 40), (0, .nameAndType 41 42), (0, u "charAt"), (0, u "(I)C"), (0, .methodref 7 44), (0, .nameAndType 45 46), (0, u "isEquality"), (0, u "()Z"), (0, .class_ 48), (0, u "com/example/rbac_check/rbaccheck/policy/OperatorIsEqualityPinLaw"), (2, u "law"), (0, u "(I)Z")] 9

def k1m0 : Method := { name := "<init>", desc := "()V", sig := { parameters := [], returnType := none }, accessFlags := 2, code := none }
def k1c1 : Code := { maxStack := 4, maxLocals := 7, code := code, exceptionTable := #[], attributes := #[] }
def k1m1 : Method := { name := "law", desc := "(I)Z", sig := { parameters := [.int], returnType := some .boolean }, accessFlags := 9, code := some k1c1 }
/-- com/example/rbac_check/rbaccheck/policy/OperatorIsEqualityPinLaw -/
def k1 : Class := { plain "com/example/rbac_check/rbaccheck/policy/OperatorIsEqualityPinLaw" (some 0) with
  accessFlags := 49
  interfaces := #[]
  cf := some (fileOf pool1 47 #[] #[{ accessFlags := 2, nameIndex := 5, descriptorIndex := 6, attributes := #[] }, { accessFlags := 9, nameIndex := 51, descriptorIndex := 52, attributes := #[] }] 49 2 #[] #[])
  fields := #[]
  methods := #[k1m0, k1m1]
  instanceTypes := #[]
  staticTypes := #[]
  resolved := Array.replicate 62 none
  statics := none }

def pool2 : Array CpInfo := pool [(1, .class_ 2), (0, u "java/lang/constant/Constable"), (0, .class_ 4), (0, u "java/lang/Object")] 6

/-- java/lang/constant/Constable -/
def k2 : Class := { plain "java/lang/constant/Constable" (some 0) with
  accessFlags := 1537
  interfaces := #[]
  cf := some (fileOf pool2 1 #[] #[] 1537 3 #[] #[])
  fields := #[]
  methods := #[]
  instanceTypes := #[]
  staticTypes := #[]
  resolved := Array.replicate 11 none
  statics := none }

def pool3 : Array CpInfo := pool [(1, .class_ 2), (0, u "java/lang/Comparable"), (0, .class_ 4), (0, u "java/lang/Object")] 7

/-- java/lang/Comparable -/
def k3 : Class := { plain "java/lang/Comparable" (some 0) with
  accessFlags := 1537
  interfaces := #[]
  cf := some (fileOf pool3 1 #[] #[] 1537 3 #[] #[])
  fields := #[]
  methods := #[]
  instanceTypes := #[]
  staticTypes := #[]
  resolved := Array.replicate 12 none
  statics := none }

def pool4 : Array CpInfo := pool [(1, .class_ 2), (0, u "java/io/Serializable"), (0, .class_ 4), (0, u "java/lang/Object")] 2

/-- java/io/Serializable -/
def k4 : Class := { plain "java/io/Serializable" (some 0) with
  accessFlags := 1537
  interfaces := #[]
  cf := some (fileOf pool4 1 #[] #[] 1537 3 #[] #[])
  fields := #[]
  methods := #[]
  instanceTypes := #[]
  staticTypes := #[]
  resolved := Array.replicate 7 none
  statics := none }

def pool5 : Array CpInfo := pool [(2, .class_ 4), (1, u "java/lang/Enum"), (0, u "name"), (0, u "Ljava/lang/String;"), (2, u "ordinal"), (0, u "I"), (1, .class_ 14), (1, u "java/lang/Object"), (4, u "hash"), (86, .class_ 108), (1, u "java/lang/Enum$EnumDesc"), (2, .class_ 112), (0, u "java/lang/constant/Constable"), (0, .class_ 114), (0, u "java/lang/Comparable"), (0, .class_ 116), (0, u "java/io/Serializable")] 87

/-- java/lang/Enum -/
def k5 : Class := { plain "java/lang/Enum" (some 0) with
  accessFlags := 1057
  interfaces := #[2, 3, 4]
  cf := some (fileOf pool5 2 #[.nestMembers #[106]] #[] 1057 12 #[111, 113, 115] #[{ accessFlags := 18, nameIndex := 5, descriptorIndex := 6, attributes := #[] }, { accessFlags := 18, nameIndex := 9, descriptorIndex := 10, attributes := #[] }, { accessFlags := 2, nameIndex := 19, descriptorIndex := 10, attributes := #[] }])
  fields := #[{ name := "name", type := (.object "java/lang/String"), accessFlags := 18, slot := 0, constantValue := 0 }, { name := "ordinal", type := .int, accessFlags := 18, slot := 1, constantValue := 0 }, { name := "hash", type := .int, accessFlags := 2, slot := 2, constantValue := 0 }]
  methods := #[]
  instanceTypes := #[(.object "java/lang/String"), .int, .int]
  staticTypes := #[]
  resolved := Array.replicate 204 none
  statics := none }

def pool6 : Array CpInfo := pool [(1, .class_ 2), (0, u "com/example/rbac_check/rbaccheck/policy/Condition$Operator"), (0, .fieldref 1 4), (0, .nameAndType 5 6), (0, u "EQUAL"), (0, u "Lcom/example/rbac_check/rbaccheck/policy/Condition$Operator;"), (0, .fieldref 1 8), (0, .nameAndType 9 6), (0, u "NOT_EQUAL"), (2, u "LESS"), (2, u "AT_MOST"), (2, u "GREATER"), (2, u "AT_LEAST"), (2, u "$VALUES"), (0, u "[Lcom/example/rbac_check/rbaccheck/policy/Condition$Operator;"), (6, .class_ 34), (1, u "java/lang/Enum"), (6, .fieldref 1 42), (0, .nameAndType 43 44), (0, u "symbol"), (0, u "Ljava/lang/String;"), (72, u "()Ljava/lang/String;"), (0, u "isEquality"), (0, u "()Z"), (9, .class_ 130), (0, u "com/example/rbac_check/rbaccheck/policy/Condition")] 17

def k6c0 : Code := { maxStack := 1, maxLocals := 1, code := prog_24_method_4_code, exceptionTable := #[], attributes := #[] }
def k6m0 : Method := { name := "symbol", desc := "()Ljava/lang/String;", sig := { parameters := [], returnType := some (.object "java/lang/String") }, accessFlags := 1, code := some k6c0 }
def k6c1 : Code := { maxStack := 2, maxLocals := 1, code := prog_24_method_5_code, exceptionTable := #[], attributes := #[] }
def k6m1 : Method := { name := "isEquality", desc := "()Z", sig := { parameters := [], returnType := some .boolean }, accessFlags := 1, code := some k6c1 }
/-- com/example/rbac_check/rbaccheck/policy/Condition$Operator -/
def k6 : Class := { plain "com/example/rbac_check/rbaccheck/policy/Condition$Operator" (some 5) with
  accessFlags := 16433
  interfaces := #[]
  cf := some (fileOf pool6 1 #[.nestHost 129] #[{ accessFlags := 1, nameIndex := 43, descriptorIndex := 117, attributes := #[] }, { accessFlags := 1, nameIndex := 118, descriptorIndex := 119, attributes := #[] }] 16433 32 #[] #[{ accessFlags := 16409, nameIndex := 5, descriptorIndex := 6, attributes := #[] }, { accessFlags := 16409, nameIndex := 9, descriptorIndex := 6, attributes := #[] }, { accessFlags := 16409, nameIndex := 12, descriptorIndex := 6, attributes := #[] }, { accessFlags := 16409, nameIndex := 15, descriptorIndex := 6, attributes := #[] }, { accessFlags := 16409, nameIndex := 18, descriptorIndex := 6, attributes := #[] }, { accessFlags := 16409, nameIndex := 21, descriptorIndex := 6, attributes := #[] }, { accessFlags := 18, nameIndex := 43, descriptorIndex := 44, attributes := #[] }, { accessFlags := 4122, nameIndex := 24, descriptorIndex := 25, attributes := #[] }])
  fields := #[{ name := "EQUAL", type := (.object "com/example/rbac_check/rbaccheck/policy/Condition$Operator"), accessFlags := 16409, slot := 0, constantValue := 0 }, { name := "NOT_EQUAL", type := (.object "com/example/rbac_check/rbaccheck/policy/Condition$Operator"), accessFlags := 16409, slot := 1, constantValue := 0 }, { name := "LESS", type := (.object "com/example/rbac_check/rbaccheck/policy/Condition$Operator"), accessFlags := 16409, slot := 2, constantValue := 0 }, { name := "AT_MOST", type := (.object "com/example/rbac_check/rbaccheck/policy/Condition$Operator"), accessFlags := 16409, slot := 3, constantValue := 0 }, { name := "GREATER", type := (.object "com/example/rbac_check/rbaccheck/policy/Condition$Operator"), accessFlags := 16409, slot := 4, constantValue := 0 }, { name := "AT_LEAST", type := (.object "com/example/rbac_check/rbaccheck/policy/Condition$Operator"), accessFlags := 16409, slot := 5, constantValue := 0 }, { name := "symbol", type := (.object "java/lang/String"), accessFlags := 18, slot := 3, constantValue := 0 }, { name := "$VALUES", type := (.array (.object "com/example/rbac_check/rbaccheck/policy/Condition$Operator")), accessFlags := 4122, slot := 6, constantValue := 0 }]
  methods := #[k6m0, k6m1]
  instanceTypes := #[(.object "java/lang/String"), .int, .int, (.object "java/lang/String")]
  staticTypes := #[(.object "com/example/rbac_check/rbaccheck/policy/Condition$Operator"), (.object "com/example/rbac_check/rbaccheck/policy/Condition$Operator"), (.object "com/example/rbac_check/rbaccheck/policy/Condition$Operator"), (.object "com/example/rbac_check/rbaccheck/policy/Condition$Operator"), (.object "com/example/rbac_check/rbaccheck/policy/Condition$Operator"), (.object "com/example/rbac_check/rbaccheck/policy/Condition$Operator"), (.array (.object "com/example/rbac_check/rbaccheck/policy/Condition$Operator"))]
  resolved := Array.replicate 148 none
  statics := some 0 }

def pool7 : Array CpInfo := pool [(2, .class_ 4), (1, u "java/lang/CharSequence"), (42, .class_ 48), (0, u "java/lang/CharSequence$1CodePointIterator"), (10, .class_ 60), (0, u "java/lang/CharSequence$1CharIterator"), (5, .class_ 67), (0, u "java/lang/Object")] 63

/-- java/lang/CharSequence -/
def k7 : Class := { plain "java/lang/CharSequence" (some 0) with
  accessFlags := 1537
  interfaces := #[]
  cf := some (fileOf pool7 2 #[.nestMembers #[47, 59]] #[] 1537 66 #[] #[])
  fields := #[]
  methods := #[]
  instanceTypes := #[]
  staticTypes := #[]
  resolved := Array.replicate 131 none
  statics := none }

def pool8 : Array CpInfo := pool [(1, .class_ 2), (0, u "java/lang/constant/ConstantDesc"), (0, .class_ 4), (0, u "java/lang/Object")] 32

/-- java/lang/constant/ConstantDesc -/
def k8 : Class := { plain "java/lang/constant/ConstantDesc" (some 0) with
  accessFlags := 1537
  interfaces := #[]
  cf := some (fileOf pool8 1 #[] #[] 1537 3 #[] #[])
  fields := #[]
  methods := #[]
  instanceTypes := #[]
  staticTypes := #[]
  resolved := Array.replicate 37 none
  statics := none }

def pool9 : Array CpInfo := pool [(2, .class_ 4), (1, u "java/lang/Object"), (0, u "<init>"), (0, u "()V"), (2, .fieldref 10 11), (0, .class_ 12), (0, .nameAndType 13 14), (0, u "java/lang/String"), (0, u "value"), (0, u "[B"), (0, .fieldref 10 16), (0, .nameAndType 17 18), (0, u "coder"), (0, u "B"), (2, u "hash"), (0, u "I"), (2, u "hashIsZero"), (0, u "Z"), (11, .fieldref 10 39), (0, .nameAndType 40 26), (0, u "COMPACT_STRINGS"), (66, .class_ 109), (1, u "java/lang/StringLatin1"), (32, u "()Z"), (191, u "()I"), (0, .methodref 10 336), (0, .nameAndType 17 337), (0, u "()B"), (25, u "([BI)C"), (27, u "(II)V"), (35, u "(I)C"), (64, .methodref 10 493), (0, .nameAndType 494 142), (0, u "isLatin1"), (0, .methodref 107 496), (0, .nameAndType 497 363), (0, u "charAt"), (3, u "checkIndex"), (5, u "length"), (67, .class_ 576), (0, u "java/lang/CharSequence"), (22, u "CASE_INSENSITIVE_ORDER"), (0, u "Ljava/util/Comparator;"), (452, .fieldref 1054 1055), (0, .class_ 1056), (0, .nameAndType 1057 1058), (0, u "jdk/internal/util/Preconditions"), (0, u "SIOOBE_FORMATTER"), (0, u "Ljava/util/function/BiFunction;"), (0, .methodref 1054 1060), (0, .nameAndType 501 1061), (0, u "(IILjava/util/function/BiFunction;)I"), (39, u "serialPersistentFields"), (0, u "[Ljava/io/ObjectStreamField;"), (0, .class_ 1104), (0, u "java/lang/String$CaseInsensitiveComparator"), (1, .class_ 1107), (0, u "java/io/Serializable"), (0, .class_ 1109), (0, u "java/lang/Comparable"), (0, .class_ 1111), (0, u "java/lang/constant/Constable"), (0, .class_ 1113), (0, u "java/lang/constant/ConstantDesc"), (2, u "serialVersionUID"), (0, u "J"), (3, u "REPL"), (0, u "C"), (2, u "LATIN1"), (1, u "UTF16")] 323

def k9m0 : Method := { name := "<init>", desc := "()V", sig := { parameters := [], returnType := none }, accessFlags := 1, code := none }
def k9c1 : Code := { maxStack := 2, maxLocals := 1, code := jdk_42_method_54_code, exceptionTable := #[], attributes := #[] }
def k9m1 : Method := { name := "length", desc := "()I", sig := { parameters := [], returnType := some .int }, accessFlags := 1, code := some k9c1 }
def k9c2 : Code := { maxStack := 2, maxLocals := 2, code := jdk_42_method_56_code, exceptionTable := #[], attributes := #[] }
def k9m2 : Method := { name := "charAt", desc := "(I)C", sig := { parameters := [.int], returnType := some .char }, accessFlags := 1, code := some k9c2 }
def k9c3 : Code := { maxStack := 1, maxLocals := 1, code := jdk_42_method_152_code, exceptionTable := #[], attributes := #[] }
def k9m3 : Method := { name := "coder", desc := "()B", sig := { parameters := [], returnType := some .byte }, accessFlags := 0, code := some k9c3 }
def k9c4 : Code := { maxStack := 1, maxLocals := 1, code := jdk_42_method_154_code, exceptionTable := #[], attributes := #[] }
def k9m4 : Method := { name := "isLatin1", desc := "()Z", sig := { parameters := [], returnType := some .boolean }, accessFlags := 0, code := some k9c4 }
def k9c5 : Code := { maxStack := 3, maxLocals := 2, code := jdk_42_method_155_code, exceptionTable := #[], attributes := #[] }
def k9m5 : Method := { name := "checkIndex", desc := "(II)V", sig := { parameters := [.int, .int], returnType := none }, accessFlags := 8, code := some k9c5 }
/-- java/lang/String -/
def k9 : Class := { plain "java/lang/String" (some 0) with
  accessFlags := 49
  interfaces := #[4, 3, 7, 2, 8]
  cf := some (fileOf pool9 10 #[.nestMembers #[1103]] #[{ accessFlags := 1, nameIndex := 5, descriptorIndex := 6, attributes := #[] }, { accessFlags := 1, nameIndex := 507, descriptorIndex := 334, attributes := #[] }, { accessFlags := 1, nameIndex := 497, descriptorIndex := 427, attributes := #[] }, { accessFlags := 0, nameIndex := 17, descriptorIndex := 337, attributes := #[] }, { accessFlags := 0, nameIndex := 494, descriptorIndex := 142, attributes := #[] }, { accessFlags := 8, nameIndex := 501, descriptorIndex := 391, attributes := #[] }] 49 2 #[1106, 1108, 575, 1110, 1112] #[{ accessFlags := 18, nameIndex := 13, descriptorIndex := 14, attributes := #[] }, { accessFlags := 18, nameIndex := 17, descriptorIndex := 18, attributes := #[] }, { accessFlags := 2, nameIndex := 21, descriptorIndex := 22, attributes := #[] }, { accessFlags := 2, nameIndex := 25, descriptorIndex := 26, attributes := #[] }, { accessFlags := 26, nameIndex := 1116, descriptorIndex := 1117, attributes := #[] }, { accessFlags := 24, nameIndex := 40, descriptorIndex := 26, attributes := #[] }, { accessFlags := 26, nameIndex := 1101, descriptorIndex := 1102, attributes := #[] }, { accessFlags := 26, nameIndex := 1121, descriptorIndex := 1122, attributes := #[] }, { accessFlags := 25, nameIndex := 599, descriptorIndex := 600, attributes := #[] }, { accessFlags := 24, nameIndex := 1125, descriptorIndex := 18, attributes := #[] }, { accessFlags := 24, nameIndex := 1127, descriptorIndex := 18, attributes := #[] }])
  fields := #[{ name := "value", type := (.array .byte), accessFlags := 18, slot := 0, constantValue := 0 }, { name := "coder", type := .byte, accessFlags := 18, slot := 1, constantValue := 0 }, { name := "hash", type := .int, accessFlags := 2, slot := 2, constantValue := 0 }, { name := "hashIsZero", type := .boolean, accessFlags := 2, slot := 3, constantValue := 0 }, { name := "serialVersionUID", type := .long, accessFlags := 26, slot := 0, constantValue := 0 }, { name := "COMPACT_STRINGS", type := .boolean, accessFlags := 24, slot := 1, constantValue := 0 }, { name := "serialPersistentFields", type := (.array (.object "java/io/ObjectStreamField")), accessFlags := 26, slot := 2, constantValue := 0 }, { name := "REPL", type := .char, accessFlags := 26, slot := 3, constantValue := 0 }, { name := "CASE_INSENSITIVE_ORDER", type := (.object "java/util/Comparator"), accessFlags := 25, slot := 4, constantValue := 0 }, { name := "LATIN1", type := .byte, accessFlags := 24, slot := 5, constantValue := 0 }, { name := "UTF16", type := .byte, accessFlags := 24, slot := 6, constantValue := 0 }]
  methods := #[k9m0, k9m1, k9m2, k9m3, k9m4, k9m5]
  instanceTypes := #[(.array .byte), .byte, .int, .boolean]
  staticTypes := #[.long, .boolean, (.array (.object "java/io/ObjectStreamField")), .char, (.object "java/util/Comparator"), .byte, .byte]
  resolved := Array.replicate 1451 none
  statics := some 1 }

def pool10 : Array CpInfo := pool [(1, .class_ 2), (0, u "java/lang/String"), (1, .class_ 6), (1, u "java/lang/Object"), (0, u "<init>"), (0, u "()V"), (0, .methodref 1 10), (0, .nameAndType 11 12), (0, u "checkIndex"), (0, u "(II)V"), (1, .class_ 16), (1, u "java/lang/StringLatin1"), (36, u "([BI)C"), (67, u "$assertionsDisabled"), (0, u "Z"), (98, .class_ 223), (1, u "java/lang/StringLatin1$LinesSpliterator"), (28, u "charAt"), (137, .class_ 391), (0, u "java/lang/StringLatin1$CharsSpliterator")] 3

def k10m0 : Method := { name := "<init>", desc := "()V", sig := { parameters := [], returnType := none }, accessFlags := 0, code := none }
def k10c1 : Code := { maxStack := 2, maxLocals := 2, code := jdk_43_method_2_code, exceptionTable := #[], attributes := #[] }
def k10m1 : Method := { name := "charAt", desc := "([BI)C", sig := { parameters := [(.array .byte), .int], returnType := some .char }, accessFlags := 9, code := some k10c1 }
/-- java/lang/StringLatin1 -/
def k10 : Class := { plain "java/lang/StringLatin1" (some 0) with
  accessFlags := 48
  interfaces := #[]
  cf := some (fileOf pool10 14 #[.nestMembers #[390, 221]] #[{ accessFlags := 0, nameIndex := 7, descriptorIndex := 8, attributes := #[] }, { accessFlags := 9, nameIndex := 252, descriptorIndex := 53, attributes := #[] }] 48 4 #[] #[{ accessFlags := 4120, nameIndex := 121, descriptorIndex := 122, attributes := #[] }])
  fields := #[{ name := "$assertionsDisabled", type := .boolean, accessFlags := 4120, slot := 0, constantValue := 0 }]
  methods := #[k10m0, k10m1]
  instanceTypes := #[]
  staticTypes := #[.boolean]
  resolved := Array.replicate 395 none
  statics := none }

def pool11 : Array CpInfo := pool [(2, .class_ 4), (1, u "java/lang/Object"), (0, u "<init>"), (0, u "()V"), (17, .class_ 26), (1, u "jdk/internal/util/Preconditions"), (6, u "checkIndex"), (21, .class_ 56), (0, u "jdk/internal/util/Preconditions$4"), (57, .class_ 115), (0, u "jdk/internal/util/Preconditions$1"), (7, u "SIOOBE_FORMATTER"), (0, u "Ljava/util/function/BiFunction;"), (0, .class_ 126), (0, u "jdk/internal/util/Preconditions$2"), (3, u "AIOOBE_FORMATTER"), (0, .class_ 132), (0, u "jdk/internal/util/Preconditions$3"), (3, u "IOOBE_FORMATTER"), (41, u "(IILjava/util/function/BiFunction;)I")] 15

def k11m0 : Method := { name := "<init>", desc := "()V", sig := { parameters := [], returnType := none }, accessFlags := 1, code := none }
def k11c1 : Code := { maxStack := 3, maxLocals := 3, code := jdk_41_method_11_code, exceptionTable := #[], attributes := #[] }
def k11m1 : Method := { name := "checkIndex", desc := "(IILjava/util/function/BiFunction;)I", sig := { parameters := [.int, .int, (.object "java/util/function/BiFunction")], returnType := some .int }, accessFlags := 9, code := some k11c1 }
/-- jdk/internal/util/Preconditions -/
def k11 : Class := { plain "jdk/internal/util/Preconditions" (some 0) with
  accessFlags := 33
  interfaces := #[]
  cf := some (fileOf pool11 24 #[.nestMembers #[55, 131, 125, 114]] #[{ accessFlags := 1, nameIndex := 5, descriptorIndex := 6, attributes := #[] }, { accessFlags := 9, nameIndex := 33, descriptorIndex := 178, attributes := #[] }] 33 2 #[] #[{ accessFlags := 25, nameIndex := 123, descriptorIndex := 124, attributes := #[] }, { accessFlags := 25, nameIndex := 130, descriptorIndex := 124, attributes := #[] }, { accessFlags := 25, nameIndex := 136, descriptorIndex := 124, attributes := #[] }])
  fields := #[{ name := "SIOOBE_FORMATTER", type := (.object "java/util/function/BiFunction"), accessFlags := 25, slot := 0, constantValue := 0 }, { name := "AIOOBE_FORMATTER", type := (.object "java/util/function/BiFunction"), accessFlags := 25, slot := 1, constantValue := 0 }, { name := "IOOBE_FORMATTER", type := (.object "java/util/function/BiFunction"), accessFlags := 25, slot := 2, constantValue := 0 }]
  methods := #[k11m0, k11m1]
  instanceTypes := #[]
  staticTypes := #[(.object "java/util/function/BiFunction"), (.object "java/util/function/BiFunction"), (.object "java/util/function/BiFunction")]
  resolved := Array.replicate 194 none
  statics := some 2 }

def pool12 : Array CpInfo := pool [(9, u "<init>"), (6, .class_ 18), (1, u "java/lang/Object"), (0, u "()V"), (1, .class_ 23), (1, u "jdk/internal/util/ArraysSupport"), (0, u "LOG2_ARRAY_LONG_INDEX_SCALE"), (0, u "I"), (2, u "U"), (0, u "Ljdk/internal/misc/Unsafe;"), (8, u "BIG_ENDIAN"), (0, u "Z"), (8, u "LOG2_BYTE_BIT_SIZE"), (4, u "LOG2_ARRAY_INT_INDEX_SCALE"), (54, u "JLA"), (0, u "Ljdk/internal/access/JavaLangAccess;"), (11, u "LOG2_ARRAY_BOOLEAN_INDEX_SCALE"), (9, u "LOG2_ARRAY_BYTE_INDEX_SCALE"), (5, u "LOG2_ARRAY_CHAR_INDEX_SCALE"), (5, u "LOG2_ARRAY_SHORT_INDEX_SCALE"), (18, u "LOG2_ARRAY_FLOAT_INDEX_SCALE"), (24, u "LOG2_ARRAY_DOUBLE_INDEX_SCALE"), (89, u "T_BOOLEAN"), (2, u "T_CHAR"), (1, u "T_FLOAT"), (1, u "T_DOUBLE"), (1, u "T_BYTE"), (1, u "T_SHORT"), (1, u "T_INT"), (1, u "T_LONG"), (1, u "SOFT_MAX_ARRAY_LENGTH")] 83

def k12m0 : Method := { name := "<init>", desc := "()V", sig := { parameters := [], returnType := none }, accessFlags := 2, code := none }
/-- jdk/internal/util/ArraysSupport -/
def k12 : Class := { plain "jdk/internal/util/ArraysSupport" (some 0) with
  accessFlags := 33
  interfaces := #[]
  cf := some (fileOf pool12 21 #[] #[{ accessFlags := 2, nameIndex := 9, descriptorIndex := 19, attributes := #[] }] 33 16 #[] #[{ accessFlags := 24, nameIndex := 28, descriptorIndex := 29, attributes := #[] }, { accessFlags := 26, nameIndex := 38, descriptorIndex := 39, attributes := #[] }, { accessFlags := 25, nameIndex := 121, descriptorIndex := 25, attributes := #[] }, { accessFlags := 25, nameIndex := 131, descriptorIndex := 25, attributes := #[] }, { accessFlags := 25, nameIndex := 137, descriptorIndex := 25, attributes := #[] }, { accessFlags := 25, nameIndex := 143, descriptorIndex := 25, attributes := #[] }, { accessFlags := 25, nameIndex := 53, descriptorIndex := 25, attributes := #[] }, { accessFlags := 25, nameIndex := 24, descriptorIndex := 25, attributes := #[] }, { accessFlags := 25, nameIndex := 162, descriptorIndex := 25, attributes := #[] }, { accessFlags := 25, nameIndex := 187, descriptorIndex := 25, attributes := #[] }, { accessFlags := 26, nameIndex := 48, descriptorIndex := 25, attributes := #[] }, { accessFlags := 25, nameIndex := 277, descriptorIndex := 25, attributes := #[] }, { accessFlags := 25, nameIndex := 280, descriptorIndex := 25, attributes := #[] }, { accessFlags := 25, nameIndex := 282, descriptorIndex := 25, attributes := #[] }, { accessFlags := 25, nameIndex := 284, descriptorIndex := 25, attributes := #[] }, { accessFlags := 25, nameIndex := 286, descriptorIndex := 25, attributes := #[] }, { accessFlags := 25, nameIndex := 288, descriptorIndex := 25, attributes := #[] }, { accessFlags := 25, nameIndex := 290, descriptorIndex := 25, attributes := #[] }, { accessFlags := 25, nameIndex := 292, descriptorIndex := 25, attributes := #[] }, { accessFlags := 26, nameIndex := 108, descriptorIndex := 109, attributes := #[] }, { accessFlags := 25, nameIndex := 294, descriptorIndex := 25, attributes := #[] }])
  fields := #[{ name := "U", type := (.object "jdk/internal/misc/Unsafe"), accessFlags := 24, slot := 0, constantValue := 0 }, { name := "BIG_ENDIAN", type := .boolean, accessFlags := 26, slot := 1, constantValue := 0 }, { name := "LOG2_ARRAY_BOOLEAN_INDEX_SCALE", type := .int, accessFlags := 25, slot := 2, constantValue := 0 }, { name := "LOG2_ARRAY_BYTE_INDEX_SCALE", type := .int, accessFlags := 25, slot := 3, constantValue := 0 }, { name := "LOG2_ARRAY_CHAR_INDEX_SCALE", type := .int, accessFlags := 25, slot := 4, constantValue := 0 }, { name := "LOG2_ARRAY_SHORT_INDEX_SCALE", type := .int, accessFlags := 25, slot := 5, constantValue := 0 }, { name := "LOG2_ARRAY_INT_INDEX_SCALE", type := .int, accessFlags := 25, slot := 6, constantValue := 0 }, { name := "LOG2_ARRAY_LONG_INDEX_SCALE", type := .int, accessFlags := 25, slot := 7, constantValue := 0 }, { name := "LOG2_ARRAY_FLOAT_INDEX_SCALE", type := .int, accessFlags := 25, slot := 8, constantValue := 0 }, { name := "LOG2_ARRAY_DOUBLE_INDEX_SCALE", type := .int, accessFlags := 25, slot := 9, constantValue := 0 }, { name := "LOG2_BYTE_BIT_SIZE", type := .int, accessFlags := 26, slot := 10, constantValue := 0 }, { name := "T_BOOLEAN", type := .int, accessFlags := 25, slot := 11, constantValue := 0 }, { name := "T_CHAR", type := .int, accessFlags := 25, slot := 12, constantValue := 0 }, { name := "T_FLOAT", type := .int, accessFlags := 25, slot := 13, constantValue := 0 }, { name := "T_DOUBLE", type := .int, accessFlags := 25, slot := 14, constantValue := 0 }, { name := "T_BYTE", type := .int, accessFlags := 25, slot := 15, constantValue := 0 }, { name := "T_SHORT", type := .int, accessFlags := 25, slot := 16, constantValue := 0 }, { name := "T_INT", type := .int, accessFlags := 25, slot := 17, constantValue := 0 }, { name := "T_LONG", type := .int, accessFlags := 25, slot := 18, constantValue := 0 }, { name := "JLA", type := (.object "jdk/internal/access/JavaLangAccess"), accessFlags := 26, slot := 19, constantValue := 0 }, { name := "SOFT_MAX_ARRAY_LENGTH", type := .int, accessFlags := 25, slot := 20, constantValue := 0 }]
  methods := #[k12m0]
  instanceTypes := #[]
  staticTypes := #[(.object "jdk/internal/misc/Unsafe"), .boolean, .int, .int, .int, .int, .int, .int, .int, .int, .int, .int, .int, .int, .int, .int, .int, .int, .int, (.object "jdk/internal/access/JavaLangAccess"), .int]
  resolved := Array.replicate 378 none
  statics := none }

def pool13 : Array CpInfo := pool [(1, u "java/lang/Cloneable"), (0, .class_ 1), (0, u "java/lang/Object"), (0, .class_ 3)] 3

/-- java/lang/Cloneable -/
def k13 : Class := { plain "java/lang/Cloneable" (some 0) with
  accessFlags := 1537
  interfaces := #[]
  cf := some (fileOf pool13 2 #[] #[] 1537 4 #[] #[])
  fields := #[]
  methods := #[]
  instanceTypes := #[]
  staticTypes := #[]
  resolved := Array.replicate 8 none
  statics := none }

/-- the primitive byte -/
def k14 : Class := { plain "byte" none with kind := .primitive 'B', accessFlags := 0x411 }
/-- [B -/
def k15 : Class := { plain "[B" (some 0) with kind := .array 14 .byte, interfaces := #[13, 4], accessFlags := 1041 }

/-- the primitive int -/
def k16 : Class := { plain "int" none with kind := .primitive 'I', accessFlags := 0x411 }
/-- [I -/
def k17 : Class := { plain "[I" (some 0) with kind := .array 16 .int, interfaces := #[13, 4], accessFlags := 1041 }

/-- [Lcom/example/rbac_check/rbaccheck/policy/Condition$Operator; -/
def k18 : Class := { plain "[Lcom/example/rbac_check/rbaccheck/policy/Condition$Operator;" (some 0) with kind := .array 6 (.object "com/example/rbac_check/rbaccheck/policy/Condition$Operator"), interfaces := #[13, 4], accessFlags := 1041 }

def heap : Heap := #[{ cls := 6, slots := #[.ref 15, .ref 16, .ref 17, .ref 18, .ref 19, .ref 20, .null], vm := .statics 6 },
  { cls := 9, slots := #[.long 0, .int 1, .null, .int 0, .null, .int 0, .int 0], vm := .statics 9 },
  { cls := 11, slots := #[.null, .null, .null], vm := .statics 11 },
  { cls := 15, slots := #[.int 61], vm := .none },
  { cls := 15, slots := #[.int 33, .int 61], vm := .none },
  { cls := 15, slots := #[.int 60], vm := .none },
  { cls := 15, slots := #[.int 60, .int 61], vm := .none },
  { cls := 15, slots := #[.int 62], vm := .none },
  { cls := 15, slots := #[.int 62, .int 61], vm := .none },
  { cls := 9, slots := #[.ref 3, .int 0, .int 0, .int 0], vm := .none },
  { cls := 9, slots := #[.ref 4, .int 0, .int 0, .int 0], vm := .none },
  { cls := 9, slots := #[.ref 5, .int 0, .int 0, .int 0], vm := .none },
  { cls := 9, slots := #[.ref 6, .int 0, .int 0, .int 0], vm := .none },
  { cls := 9, slots := #[.ref 7, .int 0, .int 0, .int 0], vm := .none },
  { cls := 9, slots := #[.ref 8, .int 0, .int 0, .int 0], vm := .none },
  { cls := 6, slots := #[.null, .int 0, .int 0, .ref 9], vm := .none },
  { cls := 6, slots := #[.null, .int 1, .int 0, .ref 10], vm := .none },
  { cls := 6, slots := #[.null, .int 2, .int 0, .ref 11], vm := .none },
  { cls := 6, slots := #[.null, .int 3, .int 0, .ref 12], vm := .none },
  { cls := 6, slots := #[.null, .int 4, .int 0, .ref 13], vm := .none },
  { cls := 6, slots := #[.null, .int 5, .int 0, .ref 14], vm := .none }]
def classes : Array Class := #[k0, k1, k2, k3, k4, k5, k6, k7, k8, k9, k10, k11, k12, k13, k14, k15, k16, k17, k18]
def interned : List (Array UInt16 × Addr) := []
def slotsUsed : Nat := 74
def theMethod : MethodId := ⟨1, 1⟩
def args0 : Array Value := #[.int 3]
def aboutOver (below : List Frame) : State where
  vm := { classes := classes, interned := interned.toArray }
  heap := heap
  slotsUsed := slotsUsed
  threads := #[{ frames := .invoking theMethod args0 :: below }]
def below0 : List Frame := [.native { method := ⟨0, 0⟩, args := #[] }]
def about1 : State := aboutOver below0
def p0 : Program := .bare "" "" ""
def e0 : Env := launch0.env 0 0 0
theorem w_frames : about1.frames = Frame.invoking theMethod args0 :: below0 := rfl
set_option maxRecDepth 65536 in
theorem w_args : argsFit about1.vm theMethod args0 = true := by decide +kernel
set_option maxRecDepth 65536 in
theorem w_heap : heapFits about1 = true := by decide +kernel
set_option maxRecDepth 65536 in
theorem w_runnable : about1.curStatus? = some .runnable := by decide +kernel
set_option maxRecDepth 65536 in
theorem w_alone : about1.alone = true := by decide +kernel
set_option maxRecDepth 65536 in
theorem w_named : about1.methodNamed? x = some theMethod := by decide +kernel
set_option maxRecDepth 65536 in
theorem w_hears : about1.hears theMethod below0 = true := by decide +kernel
set_option maxRecDepth 65536 in
theorem w_ripe : about1.ripe theMethod args0 below0 = true := by decide +kernel
theorem w_running : about1.status = .running := rfl
set_option maxRecDepth 65536 in
theorem w_room : about1.hasRoom e0.platform room_1 = true :=
  launch0.hasRoom_least _ room_1 (by decide +kernel) (by decide +kernel) (by decide +kernel) (by decide +kernel) (by decide +kernel) (by decide +kernel)
theorem allAtoms_all (ts : List Jvm.Cond) (a : Array Jvm.Value) (st : Jvm.State) : (allAtoms ts).before a st = ts.all (fun c => c.before a st) := by
  induction ts with
  | nil => rfl
  | cons c t ih =>
    show (Jvm.Cond.and c (allAtoms t)).before a st = _
    rw [Jvm.Cond.before_and, ih, List.all_cons]
def words1 : List Jvm.Cond := Jvm.Cond.code x code maxLocals ret :: tables_1
/-- a 'code' word, met by the world's own term for the bytes: nothing is compared byte by byte -/
theorem code_word {y : MethodName} {bytes : ByteArray} {mx : Nat} {rt : Option FieldType} {a : Array Value} {s : State} {m : MethodId} {meth : Method} {c : Code} (h1 : s.methodNamed? y = some m) (h2 : s.vm.method? m = some meth) (h3 : meth.code = some c) (h4 : c.code = bytes)
    (h5 : (c.maxLocals == mx && c.exceptionTable.isEmpty && decide (c.maxStack ≤ mostOperands) && decide (meth.sig.returnType = rt) && !meth.locks && decide (parseMethodDescriptor y.desc = some meth.sig)) = true) : (Jvm.Cond.code y bytes mx rt).before a s = true := by
  simp only [Bool.and_eq_true, beq_iff_eq, Bool.not_eq_true', decide_eq_true_eq] at h5
  obtain ⟨⟨⟨⟨⟨g1, g2⟩, g3⟩, g4⟩, g5⟩, g6⟩ := h5
  simp [Cond.before, Cond.holds, Cond.value, h1, h2, h3, h4, g1, g2, g3, g4, g5, g6]
def isCode : Jvm.Cond → Bool
  | .code _ _ _ _ => true
  | _ => false
theorem all_split {L : List Jvm.Cond} {P : Jvm.Cond → Bool} (h1 : L.all (fun c => isCode c || P c) = true) (h2 : ∀ c ∈ L.filter isCode, P c = true) : L.all P = true := by
  refine List.all_eq_true.mpr fun c hc => ?_
  have h := List.all_eq_true.mp h1 c hc
  rcases Bool.eq_false_or_eq_true (isCode c) with hi | hi
  · exact h2 c (List.mem_filter.mpr ⟨hc, hi⟩)
  · simpa [hi] using h
set_option maxRecDepth 65536 in
theorem w_c0 : (Jvm.Cond.code x code maxLocals ret).before args0 about1 = true := code_word (m := ⟨1, 1⟩) (meth := k1m1) (c := k1c1) (by decide +kernel) rfl rfl rfl (by decide +kernel)
set_option maxRecDepth 65536 in
theorem w_c1 : (Jvm.Cond.code ({ cls := "com/example/rbac_check/rbaccheck/policy/Condition$Operator", name := "symbol", desc := "()Ljava/lang/String;" } : Jvm.MethodName) prog_24_method_4_code (1 : Nat) (Option.some (Jvm.ClassFile.FieldType.object "java/lang/String"))).before args0 about1 = true := code_word (m := ⟨6, 0⟩) (meth := k6m0) (c := k6c0) (by decide +kernel) rfl rfl rfl (by decide +kernel)
set_option maxRecDepth 65536 in
theorem w_c2 : (Jvm.Cond.code ({ cls := "java/lang/String", name := "length", desc := "()I" } : Jvm.MethodName) jdk_42_method_54_code (1 : Nat) (Option.some Jvm.ClassFile.FieldType.int)).before args0 about1 = true := code_word (m := ⟨9, 1⟩) (meth := k9m1) (c := k9c1) (by decide +kernel) rfl rfl rfl (by decide +kernel)
set_option maxRecDepth 65536 in
theorem w_c3 : (Jvm.Cond.code ({ cls := "java/lang/String", name := "coder", desc := "()B" } : Jvm.MethodName) jdk_42_method_152_code (1 : Nat) (Option.some Jvm.ClassFile.FieldType.byte)).before args0 about1 = true := code_word (m := ⟨9, 3⟩) (meth := k9m3) (c := k9c3) (by decide +kernel) rfl rfl rfl (by decide +kernel)
set_option maxRecDepth 65536 in
theorem w_c4 : (Jvm.Cond.code ({ cls := "java/lang/String", name := "charAt", desc := "(I)C" } : Jvm.MethodName) jdk_42_method_56_code (2 : Nat) (Option.some Jvm.ClassFile.FieldType.char)).before args0 about1 = true := code_word (m := ⟨9, 2⟩) (meth := k9m2) (c := k9c2) (by decide +kernel) rfl rfl rfl (by decide +kernel)
set_option maxRecDepth 65536 in
theorem w_c5 : (Jvm.Cond.code ({ cls := "java/lang/String", name := "isLatin1", desc := "()Z" } : Jvm.MethodName) jdk_42_method_154_code (1 : Nat) (Option.some Jvm.ClassFile.FieldType.boolean)).before args0 about1 = true := code_word (m := ⟨9, 4⟩) (meth := k9m4) (c := k9c4) (by decide +kernel) rfl rfl rfl (by decide +kernel)
set_option maxRecDepth 65536 in
theorem w_c6 : (Jvm.Cond.code ({ cls := "java/lang/StringLatin1", name := "charAt", desc := "([BI)C" } : Jvm.MethodName) jdk_43_method_2_code (2 : Nat) (Option.some Jvm.ClassFile.FieldType.char)).before args0 about1 = true := code_word (m := ⟨10, 1⟩) (meth := k10m1) (c := k10c1) (by decide +kernel) rfl rfl rfl (by decide +kernel)
set_option maxRecDepth 65536 in
theorem w_c7 : (Jvm.Cond.code ({ cls := "java/lang/String", name := "checkIndex", desc := "(II)V" } : Jvm.MethodName) jdk_42_method_155_code (2 : Nat) (Option.none : Option Jvm.ClassFile.FieldType)).before args0 about1 = true := code_word (m := ⟨9, 5⟩) (meth := k9m5) (c := k9c5) (by decide +kernel) rfl rfl rfl (by decide +kernel)
set_option maxRecDepth 65536 in
theorem w_c8 : (Jvm.Cond.code ({ cls := "jdk/internal/util/Preconditions", name := "checkIndex", desc := "(IILjava/util/function/BiFunction;)I" } : Jvm.MethodName) jdk_41_method_11_code (3 : Nat) (Option.some Jvm.ClassFile.FieldType.int)).before args0 about1 = true := code_word (m := ⟨11, 1⟩) (meth := k11m1) (c := k11c1) (by decide +kernel) rfl rfl rfl (by decide +kernel)
set_option maxRecDepth 65536 in
theorem w_c9 : (Jvm.Cond.code ({ cls := "com/example/rbac_check/rbaccheck/policy/Condition$Operator", name := "isEquality", desc := "()Z" } : Jvm.MethodName) prog_24_method_5_code (1 : Nat) (Option.some Jvm.ClassFile.FieldType.boolean)).before args0 about1 = true := code_word (m := ⟨6, 1⟩) (meth := k6m1) (c := k6c1) (by decide +kernel) rfl rfl rfl (by decide +kernel)
def codes1 : List Jvm.Cond := [Jvm.Cond.code x code maxLocals ret, Jvm.Cond.code ({ cls := "com/example/rbac_check/rbaccheck/policy/Condition$Operator", name := "symbol", desc := "()Ljava/lang/String;" } : Jvm.MethodName) prog_24_method_4_code (1 : Nat) (Option.some (Jvm.ClassFile.FieldType.object "java/lang/String")), Jvm.Cond.code ({ cls := "java/lang/String", name := "length", desc := "()I" } : Jvm.MethodName) jdk_42_method_54_code (1 : Nat) (Option.some Jvm.ClassFile.FieldType.int), Jvm.Cond.code ({ cls := "java/lang/String", name := "coder", desc := "()B" } : Jvm.MethodName) jdk_42_method_152_code (1 : Nat) (Option.some Jvm.ClassFile.FieldType.byte), Jvm.Cond.code ({ cls := "java/lang/String", name := "charAt", desc := "(I)C" } : Jvm.MethodName) jdk_42_method_56_code (2 : Nat) (Option.some Jvm.ClassFile.FieldType.char), Jvm.Cond.code ({ cls := "java/lang/String", name := "isLatin1", desc := "()Z" } : Jvm.MethodName) jdk_42_method_154_code (1 : Nat) (Option.some Jvm.ClassFile.FieldType.boolean), Jvm.Cond.code ({ cls := "java/lang/StringLatin1", name := "charAt", desc := "([BI)C" } : Jvm.MethodName) jdk_43_method_2_code (2 : Nat) (Option.some Jvm.ClassFile.FieldType.char), Jvm.Cond.code ({ cls := "java/lang/String", name := "checkIndex", desc := "(II)V" } : Jvm.MethodName) jdk_42_method_155_code (2 : Nat) (Option.none : Option Jvm.ClassFile.FieldType), Jvm.Cond.code ({ cls := "jdk/internal/util/Preconditions", name := "checkIndex", desc := "(IILjava/util/function/BiFunction;)I" } : Jvm.MethodName) jdk_41_method_11_code (3 : Nat) (Option.some Jvm.ClassFile.FieldType.int), Jvm.Cond.code ({ cls := "com/example/rbac_check/rbaccheck/policy/Condition$Operator", name := "isEquality", desc := "()Z" } : Jvm.MethodName) prog_24_method_5_code (1 : Nat) (Option.some Jvm.ClassFile.FieldType.boolean)]
set_option maxRecDepth 65536 in
theorem codes_eq : words1.filter isCode = codes1 := rfl
theorem w_codes : ∀ c ∈ words1.filter isCode, c.before args0 about1 = true := by
  rw [codes_eq]
  intro c hc
  simp only [codes1, List.mem_cons, List.not_mem_nil, or_false] at hc
  rcases hc with rfl | rfl | rfl | rfl | rfl | rfl | rfl | rfl | rfl | rfl
  · exact w_c0
  · exact w_c1
  · exact w_c2
  · exact w_c3
  · exact w_c4
  · exact w_c5
  · exact w_c6
  · exact w_c7
  · exact w_c8
  · exact w_c9
set_option maxRecDepth 65536 in
theorem w_t1 : (words1.take 24).all (fun c => isCode c || c.before args0 about1) = true := by decide +kernel
set_option maxRecDepth 65536 in
theorem w_t2 : ((words1.drop 24).take 24).all (fun c => isCode c || c.before args0 about1) = true := by decide +kernel
set_option maxRecDepth 65536 in
theorem w_t3 : ((words1.drop 24).drop 24).all (fun c => isCode c || c.before args0 about1) = true := by decide +kernel
theorem w_tables : (allAtoms (Jvm.Cond.code x code maxLocals ret :: tables_1)).before args0 about1 = true := by
  rw [allAtoms_all]
  show words1.all (fun c => c.before args0 about1) = true
  refine all_split ?_ w_codes
  rw [← List.take_append_drop 24 words1, List.all_append, w_t1, ← List.take_append_drop 24 (words1.drop 24), List.all_append, w_t2, w_t3]
  rfl
set_option maxRecDepth 65536 in
theorem w_rest : rest_1_c.before args0 about1 = true := by decide +kernel
set_option maxRecDepth 65536 in
theorem w_case : (Jvm.Cond.and given_1 narrow_1).before args0 about1 = true := by decide +kernel
theorem w_applies : (headSpec (Jvm.Cond.code x code maxLocals ret :: tables_1) room_1).applies x e0.platform about1 = true :=
  (Spec.applies_iff w_frames).mpr ⟨w_running, w_runnable, w_alone, w_named, w_hears, w_ripe, w_room, w_tables⟩
theorem atStart : AtStart classFile x code maxLocals ret World_1 tables_1 room_1 Calls_1 rest_1 Pre_1 launch0 p0 e0 about1 theMethod args0 below0 :=
  ⟨lists_1, trivial, launch0.admits_env _ _ _, launch0.least_env, fairChoices_fair.cas, fairChoices_fair.clock, w_frames, w_args, w_heap, w_applies, trivial, w_rest, w_case⟩
end start1
theorem witness_1 : WitnessClaimed_1 := ⟨start1.p0, start1.e0, start1.about1, start1.theMethod, start1.args0, start1.below0, start1.atStart⟩
end Jvm.Pilot.@@N@@
