import JvmDerived
import JvmDerived.Pilot.@@N@@Statement
import JvmDerived.Pilot.@@N@@Code
set_option linter.unusedVariables false
set_option linter.unusedSimpArgs false
@@BLOCK:NumsL.lean.txt@@
namespace Jvm.RoadKit
open Sem ClassFile Op Lib Jvm.Stand Jvm.Free Jvm.LawKit
section New
variable {p : Program} {l : Launch} {e : Env} {R : Room} {s : State} {m : MethodId} {args : Array Value} {below : List Frame} {meth : Method} {c : Code} {T : State} {locs : List Loc} {cells slots : Nat}
theorem retI (X : Stand p l e R s m args below meth c T locs cells slots) (hx : p.tables.exec = Jvm.exec) {pc : Nat} {Ls : Array Slot} {z : Int32} {rest : List Value} (hret : meth.sig.returnType = some .int) (hd : decode c.code pc = .ok (.ireturn, 1)) {fs : List Frame}
    (hl : ∀ (f : JFrame) (acts : List Action), f.method = m → f.locked = none → f.entered = [] → (doReturn e (T.setTop f) acts (some (.int z))).1 = T.setFrames fs) : Steps p.tables e below (T.setTop (mkF m pc Ls (.int z :: rest))) (T.setFrames fs) := by
  have hm' : T.vm.method? m = some meth := X.method'
  have hn : narrow .int (.int z) = .int z := rfl
  show Steps p.tables e below (T.setTop { method := m, pc := pc, locals := Ls, stack := _ :: rest, locked := none }) _
  jvm_step X.here [X.here.top, hx, hd, hm', hret, hn]
  first | (intro acts; rw [hl _ acts rfl rfl rfl]) | rw [hl _ _ rfl rfl rfl]
  exact Steps.refl _
end New
end Jvm.RoadKit
namespace Jvm.Pilot.@@N@@
open Jvm Jvm.ClassFile Sem Op Lib Jvm.Free Jvm.Stand Jvm.LawKit Jvm.RoadKit Bundle Jvm.Pilot.@@N@@.Jvm.D
def own_bsf (c : Int32) : Int32 := if c < (56320 : Int32) then -1 else if (56575 : Int32) < c then -1 else c - 56320
theorem own_bsf_lo {c : Int32} (h : c < (56320 : Int32)) : own_bsf c = -1 := by simp [own_bsf, h]
theorem own_bsf_hi {c : Int32} (h : ¬ c < (56320 : Int32)) (g : (56575 : Int32) < c) : own_bsf c = -1 := by simp [own_bsf, h, g]
theorem own_bsf_in {c : Int32} (h : ¬ c < (56320 : Int32)) (g : ¬ (56575 : Int32) < c) : own_bsf c = c - 56320 := by simp [own_bsf, h, g]
theorem own_sub {c : Int32} (h : ¬ c < (56320 : Int32)) (g : ¬ (56575 : Int32) < c) : (c - 56320).toInt = c.toInt - 56320 := by
  have e1 : (56320 : Int32).toInt = 56320 := rfl
  have e2 : (56575 : Int32).toInt = 56575 := rfl
  rw [Int32.lt_iff_toInt_lt] at h g
  have := Jvm.Kit.i32_sub (p := c) (q := 56320) (by omega) (by omega)
  omega
theorem own_marked {c : Int32} (h : ¬ own_bsf c = (-1 : Int32)) : ¬ own_bsf c < (0 : Int32) ∧ ¬ (255 : Int32) < own_bsf c ∧ c = (56320 : Int32) + own_bsf c := by
  by_cases h1 : c < (56320 : Int32)
  · exact absurd (own_bsf_lo h1) h
  by_cases h2 : (56575 : Int32) < c
  · exact absurd (own_bsf_hi h1 h2) h
  rw [own_bsf_in h1 h2]
  have e := own_sub h1 h2
  have e1 : (56320 : Int32).toInt = 56320 := rfl
  have e2 : (56575 : Int32).toInt = 56575 := rfl
  have e3 : (0 : Int32).toInt = 0 := rfl
  have e4 : (255 : Int32).toInt = 255 := rfl
  have g1 := h1
  have g2 := h2
  rw [Int32.lt_iff_toInt_lt] at g1 g2
  refine ⟨by rw [Int32.lt_iff_toInt_lt]; omega, by rw [Int32.lt_iff_toInt_lt]; omega, ?_⟩
  apply Int32.toInt_inj.mp
  have := Jvm.Kit.i32_add (p := 56320) (q := c - 56320) (by omega) (by omega)
  omega
theorem own_back (b : Int32) : own_bsf ((56320 : Int32) + (b &&& (255 : Int32))) = b &&& (255 : Int32) := by
  have e : (b &&& 255).toInt = b.toInt % 2 ^ 8 := Jvm.Kit.i32_mask b 255 (k := 8) (by decide) (by decide)
  generalize (b &&& 255) = z at *
  have e1 : (56320 : Int32).toInt = 56320 := rfl
  have e2 : (56575 : Int32).toInt = 56575 := rfl
  have q := Jvm.Kit.i32_add (p := 56320) (q := z) (by omega) (by omega)
  have h1 : ¬ (56320 + z) < (56320 : Int32) := by rw [Int32.lt_iff_toInt_lt]; omega
  have h2 : ¬ (56575 : Int32) < (56320 + z) := by rw [Int32.lt_iff_toInt_lt]; omega
  rw [own_bsf_in h1 h2]
  apply Int32.toInt_inj.mp
  rw [own_sub h1 h2]; omega
/-- from S the run comes to a return at which R holds -/
def Goes (p : Program) (e : Env) (below : List Frame) (R : State → Outcome → Prop) (S : State) : Prop := ∃ s₂ o, Steps p.tables e below S s₂ ∧ s₂.status = .running ∧ Ended s₂ below o ∧ R s₂ o
theorem Goes.step {p : Program} {e : Env} {below : List Frame} {R : State → Outcome → Prop} {S S' : State} (h : ∀ t, Steps p.tables e below S' t → Steps p.tables e below S t) (g : Goes p e below R S') : Goes p e below R S := by
  obtain ⟨s₂, o, h1, h2⟩ := g
  exact ⟨s₂, o, h _ h1, h2⟩
theorem d1_0 : decode prog_1_method_3_code 0 = .ok (.iload_n 0, 1) := by decide +kernel
theorem d1_1 : decode prog_1_method_3_code 1 = .ok (.ldc 87, 2) := by decide +kernel
theorem d1_3 : decode prog_1_method_3_code 3 = .ok (.if_icmp .lt 16, 3) := by decide +kernel
theorem d1_6 : decode prog_1_method_3_code 6 = .ok (.iload_n 0, 1) := by decide +kernel
theorem d1_7 : decode prog_1_method_3_code 7 = .ok (.ldc 88, 2) := by decide +kernel
theorem d1_9 : decode prog_1_method_3_code 9 = .ok (.if_icmp .gt 10, 3) := by decide +kernel
theorem d1_12 : decode prog_1_method_3_code 12 = .ok (.iload_n 0, 1) := by decide +kernel
theorem d1_13 : decode prog_1_method_3_code 13 = .ok (.ldc 87, 2) := by decide +kernel
theorem d1_15 : decode prog_1_method_3_code 15 = .ok (.isub, 1) := by decide +kernel
theorem d1_16 : decode prog_1_method_3_code 16 = .ok (.goto 4, 3) := by decide +kernel
theorem d1_19 : decode prog_1_method_3_code 19 = .ok (.iconst (-1), 1) := by decide +kernel
theorem d1_20 : decode prog_1_method_3_code 20 = .ok (.ireturn, 1) := by decide +kernel
theorem pn_1 : plainName "com/example/holdfast/holdfast/io/Disk" = true := by first | (simp [plainName, overriddenIn]; done) | decide +kernel
theorem pd_1 : parseMethodDescriptor "(I)I" = some ⟨[.int], some .int⟩ := by decide +kernel
theorem ef_1 (m : MethodId) (y0 : Int32) : entryFrame m #[(.int y0)] 1 = mkF m 0 #[.val (.int y0)] [] := by first | (simp [entryFrame, mkF, argsToLocals, Value.category]; done) | rfl
def Q1 (Z : State) (p1 : Int32) (h0 : Heap) (n0 : Nat) (v : Option Value) (h : Heap) (L : List Loc) : Prop := v = some (.int (own_bsf p1)) ∧ Fr n0 L ∧ h = h0
def R1 (Z : State) (p1 : Int32) (h0 : Heap) (n0 : Nat) (U : State) (U' : State) (o : Outcome) : Prop := ∃ v L, o = .returned v ∧ Q1 Z p1 h0 n0 v U'.heap L ∧ FrameEnd U o U' L ({ frames := 0, cells := 0, slots := 0, locals := 0 } : Room).cells ({ frames := 0, cells := 0, slots := 0, locals := 0 } : Room).slots
set_option maxRecDepth 65536 in
set_option maxHeartbeats 40000000 in
theorem rm1 (l : Launch) (Z : State) (a0 : Array Value) (hw : ∀ d ∈ tables_1, d.before a0 Z = true) (ws : List Jvm.Cond) (p1 : Int32) (h0 : Heap) (n0 : Nat) (Z0 : n0 ≤ h0.size)  :
    MetFree l (⟨"com/example/holdfast/holdfast/io/Disk", "byteStoodFor", "(I)I"⟩ : MethodName) (head1 (Jvm.Cond.code (⟨"com/example/holdfast/holdfast/io/Disk", "byteStoodFor", "(I)I"⟩ : MethodName) prog_1_method_3_code 1 (some .int) :: ws) ({ frames := 0, cells := 0, slots := 0, locals := 0 } : Room)) (fun a U => a = #[(.int p1)] ∧ Z.Warmed39 U.vm ∧ U.heap = h0) (fun _ _ _ _ _ => True) (fun _ U o U' => ∃ v L, o = .returned v ∧ Q1 Z p1 h0 n0 v U'.heap L ∧ FrameEnd U o U' L ({ frames := 0, cells := 0, slots := 0, locals := 0 } : Room).cells ({ frames := 0, cells := 0, slots := 0, locals := 0 } : Room).slots) := by
  refine MetFree.of_bodySF (plainFor_of_name pn_1) hisR ?_
  intro p e s m args below meth c s₁ Bd hml0 hP hK
  obtain ⟨rfl, hZ, hh⟩ := hP
  have hx := Bd.exec
  have hby := Bd.bytes
  have hml : c.maxLocals = 1 := hml0
  have hown : s.vm.findClass "com/example/holdfast/holdfast/io/Disk" = some m.cls := findClass_of_methodNamed Bd.named
  have hnm := (name_of_methodNamed Bd.named Bd.method).1
  have X0 : Stand p l e ({ frames := 0, cells := 0, slots := 0, locals := 0 } : Room) s m #[(.int p1)] below meth c s₁ [] 0 0 := Stand.of_body Bd
  have e0 : s₁.heap = h0 := by rw [← hh, Bd.state]; rfl
  have N0 := Fr.nil n0
  show Goes p e below (R1 Z p1 h0 n0 s) (s₁.setTop (entryFrame m #[(.int p1)] 1))
  refine Goes.step (S' := s₁.setTop (mkF m 0 #[.val (.int p1)] [])) (fun t k => castTop (ef_1 m p1) k) ?_
  refine Goes.step (S' := s₁.setTop (mkF m 1 #[.val (.int p1)] [(.int p1)])) (fun t k => XS.iloadN X0.here hx rfl (hb hby d1_0) rfl k) ?_
  refine Goes.step (S' := s₁.setTop (mkF m 3 #[.val (.int p1)] [(.int (56320 : Int32)), (.int p1)])) (fun t k => X0.ldcInt hx hown (mvT hZ (hw _ (List.mem_of_getElem? (i := 4) rfl))) (g := (mkF m 1 #[.val (.int p1)] [(.int p1)])) rfl (hb hby d1_1) _ k) ?_
  by_cases c1 : p1 < (56320 : Int32)
  · refine Goes.step (S' := s₁.setTop (mkF m 19 #[.val (.int p1)] [])) (fun t k => XS.icmpYes X0.here hx rfl (pc0 := 3) (pc' := 19) rfl (hb hby d1_3) rfl (tlt c1).1 (by decide) (by decide) k) ?_
    refine Goes.step (S' := s₁.setTop (mkF m 20 #[.val (.int p1)] [(.int (-1 : Int32))])) (fun t k => XS.iconst X0.here hx rfl (hb hby d1_19) k) ?_
    obtain ⟨fs, hr, hrun, hended, hW, hsame⟩ := X0.leave (v := some (.int (-1 : Int32))) (fun h => by rw [Bd.returns] at h; cases h)
    exact ⟨_, _, retI X0 hx Bd.returns (hb hby d1_20) hr, hrun, hended, _, _, rfl, ⟨by rw [own_bsf_lo c1], N0, e0⟩, ⟨_, rfl⟩, hW, hsame.mono (by decide) (by decide)⟩
  · refine Goes.step (S' := s₁.setTop (mkF m 6 #[.val (.int p1)] [])) (fun t k => XS.icmpNo X0.here hx rfl (hb hby d1_3) rfl (flt c1).1 k) ?_
    refine Goes.step (S' := s₁.setTop (mkF m 7 #[.val (.int p1)] [(.int p1)])) (fun t k => XS.iloadN X0.here hx rfl (hb hby d1_6) rfl k) ?_
    refine Goes.step (S' := s₁.setTop (mkF m 9 #[.val (.int p1)] [(.int (56575 : Int32)), (.int p1)])) (fun t k => X0.ldcInt hx hown (mvT hZ (hw _ (List.mem_of_getElem? (i := 6) rfl))) (g := (mkF m 7 #[.val (.int p1)] [(.int p1)])) rfl (hb hby d1_7) _ k) ?_
    by_cases c2 : (56575 : Int32) < p1
    · refine Goes.step (S' := s₁.setTop (mkF m 19 #[.val (.int p1)] [])) (fun t k => XS.icmpYes X0.here hx rfl (pc0 := 9) (pc' := 19) rfl (hb hby d1_9) rfl (tlt c2).2.2.1 (by decide) (by decide) k) ?_
      refine Goes.step (S' := s₁.setTop (mkF m 20 #[.val (.int p1)] [(.int (-1 : Int32))])) (fun t k => XS.iconst X0.here hx rfl (hb hby d1_19) k) ?_
      obtain ⟨fs, hr, hrun, hended, hW, hsame⟩ := X0.leave (v := some (.int (-1 : Int32))) (fun h => by rw [Bd.returns] at h; cases h)
      exact ⟨_, _, retI X0 hx Bd.returns (hb hby d1_20) hr, hrun, hended, _, _, rfl, ⟨by rw [own_bsf_hi c1 c2], N0, e0⟩, ⟨_, rfl⟩, hW, hsame.mono (by decide) (by decide)⟩
    · refine Goes.step (S' := s₁.setTop (mkF m 12 #[.val (.int p1)] [])) (fun t k => XS.icmpNo X0.here hx rfl (hb hby d1_9) rfl (flt c2).2.2.1 k) ?_
      refine Goes.step (S' := s₁.setTop (mkF m 13 #[.val (.int p1)] [(.int p1)])) (fun t k => XS.iloadN X0.here hx rfl (hb hby d1_12) rfl k) ?_
      refine Goes.step (S' := s₁.setTop (mkF m 15 #[.val (.int p1)] [(.int (56320 : Int32)), (.int p1)])) (fun t k => X0.ldcInt hx hown (mvT hZ (hw _ (List.mem_of_getElem? (i := 4) rfl))) (g := (mkF m 13 #[.val (.int p1)] [(.int p1)])) rfl (hb hby d1_13) _ k) ?_
      refine Goes.step (S' := s₁.setTop (mkF m 16 #[.val (.int p1)] [(.int (p1 - (56320 : Int32)))])) (fun t k => XS.isub X0.here hx rfl (hb hby d1_15) rfl k) ?_
      refine Goes.step (S' := s₁.setTop (mkF m 20 #[.val (.int p1)] [(.int (p1 - (56320 : Int32)))])) (fun t k => XS.goto X0.here hx rfl (pc0 := 16) (pc' := 20) rfl (hb hby d1_16) (by decide) (by decide) k) ?_
      obtain ⟨fs, hr, hrun, hended, hW, hsame⟩ := X0.leave (v := some (.int (p1 - (56320 : Int32)))) (fun h => by rw [Bd.returns] at h; cases h)
      exact ⟨_, _, retI X0 hx Bd.returns (hb hby d1_20) hr, hrun, hended, _, _, rfl, ⟨by rw [own_bsf_in c1 c2], N0, e0⟩, ⟨_, rfl⟩, hW, hsame.mono (by decide) (by decide)⟩
theorem pn_0 : plainName "com/example/holdfast/holdfast/io/DiskByteStoodForPinLaw" = true := by first | (simp [plainName, overriddenIn]; done) | decide +kernel
theorem pd_0 : parseMethodDescriptor "(II)Z" = some ⟨[.int, .int], some .boolean⟩ := by decide +kernel
theorem ef_0 (m : MethodId) (y0 : Int32) (y1 : Int32) : entryFrame m #[(.int y0), (.int y1)] maxLocals = mkF m 0 #[.val (.int y0), .val (.int y1), .unset, .unset, .unset, .unset] [] := by first | (simp [entryFrame, mkF, argsToLocals, Value.category, maxLocals]; done) | rfl
def Q0 (Z : State) (p1 : Int32) (p2 : Int32) (h0 : Heap) (n0 : Nat) (v : Option Value) (h : Heap) (L : List Loc) : Prop := v = some (.int 1) ∧ Fr n0 L
def R0 (Z : State) (p1 : Int32) (p2 : Int32) (h0 : Heap) (n0 : Nat) (U : State) (U' : State) (o : Outcome) : Prop := ∃ v L, o = .returned v ∧ Q0 Z p1 p2 h0 n0 v U'.heap L ∧ FrameEnd U o U' L room_1.cells room_1.slots
set_option maxRecDepth 65536 in
set_option maxHeartbeats 40000000 in
theorem rm0 (l : Launch) (Z : State) (a0 : Array Value) (hw : ∀ d ∈ tables_1, d.before a0 Z = true) (ws : List Jvm.Cond) (p1 : Int32) (p2 : Int32) (h0 : Heap) (n0 : Nat) (Z0 : n0 ≤ h0.size)  :
    MetFree l x (head1 (Jvm.Cond.code x code maxLocals ret :: ws) room_1) (fun a U => a = #[(.int p1), (.int p2)] ∧ Z.Warmed39 U.vm ∧ U.heap = h0) (fun _ _ _ _ _ => True) (fun _ U o U' => ∃ v L, o = .returned v ∧ Q0 Z p1 p2 h0 n0 v U'.heap L ∧ FrameEnd U o U' L room_1.cells room_1.slots) := by
  refine MetFree.of_bodySF (plainFor_of_name pn_0) hisR ?_
  intro p e s m args below meth c s₁ Bd hml0 hP hK
  obtain ⟨rfl, hZ, hh⟩ := hP
  have hx := Bd.exec
  have hby := Bd.bytes
  have hml : c.maxLocals = 6 := hml0
  have hown : s.vm.findClass "com/example/holdfast/holdfast/io/DiskByteStoodForPinLaw" = some m.cls := findClass_of_methodNamed Bd.named
  have hnm := (name_of_methodNamed Bd.named Bd.method).1
  have X0 : Stand p l e room_1 s m #[(.int p1), (.int p2)] below meth c s₁ [] 0 0 := Stand.of_body Bd
  have e0 : s₁.heap = h0 := by rw [← hh, Bd.state]; rfl
  have N0 := Fr.nil n0
  show Goes p e below (R0 Z p1 p2 h0 n0 s) (s₁.setTop (entryFrame m #[(.int p1), (.int p2)] maxLocals))
  refine Goes.step (S' := s₁.setTop (mkF m 0 #[.val (.int p1), .val (.int p2), .unset, .unset, .unset, .unset] [])) (fun t k => castTop (ef_0 m p1 p2) k) ?_
  refine Goes.step (S' := s₁.setTop (mkF m 1 #[.val (.int p1), .val (.int p2), .unset, .unset, .unset, .unset] [(.int p1)])) (fun t k => XS.iloadN X0.here hx rfl (hb hby at_0) rfl k) ?_
  obtain ⟨_, _, ⟨T1, L1, k1, n1⟩, -, X1, ⟨Lc1, hQ1, l1, y1, z1⟩, st1⟩ := Jvm.LawKit.callS X0 hx (y := (⟨"com/example/holdfast/holdfast/io/Disk", "byteStoodFor", "(I)I"⟩ : MethodName)) hown (mvT hZ (hw _ (List.mem_of_getElem? (i := 0) rfl))) (mvT hZ (hw _ (List.mem_of_getElem? (i := 1) rfl))) (mvT hZ (hw _ (List.mem_of_getElem? (i := 2) rfl))) (mvT hZ (hw _ (List.mem_of_getElem? (i := 3) rfl))) (by decide) (backOf (W := 0) (rm1 l Z a0 hw [] p1 h0 n0 Z0) hZ (hw _ (List.mem_of_getElem? (i := 3) rfl)) (hw _ (List.mem_of_getElem? (i := 2) rfl)) (by decide) (by decide)) (g := (mkF m 1 #[.val (.int p1), .val (.int p2), .unset, .unset, .unset, .unset] [(.int p1)])) rfl (by rw [hml]; rfl) (argsL := [(.int p1)]) (rest := []) (lenOf pd_1 rfl) rfl (by show 2 * 0 + _ ≤ _; exact Nat.le_of_eq rfl) (hb hby at_1) (fun _ _ => ⟨rfl, e0, (by decide : 0 + 0 ≤ _), (by decide : 0 + 0 ≤ _)⟩)
  dsimp only [Pt.U, Pt.locs, Pt.cells, Pt.slots] at X1 l1 y1 z1 st1 hQ1
  subst l1 y1 z1
  obtain ⟨rfl, N1q, e1⟩ := hQ1
  have N1 := Fr.app N0 N1q
  refine Goes.step (S' := T1.setTop (mkF m 4 #[.val (.int p1), .val (.int p2), .unset, .unset, .unset, .unset] [(.int (own_bsf p1))])) (fun t k => st1 t k) ?_
  refine Goes.step (S' := T1.setTop (mkF m 5 #[.val (.int p1), .val (.int p2), .val (.int (own_bsf p1)), .unset, .unset, .unset] [])) (fun t k => XS.istoreN X1.here hx rfl (hb hby at_4) rfl (l' := #[.val (.int p1), .val (.int p2), .val (.int (own_bsf p1)), .unset, .unset, .unset]) rfl k) ?_
  refine Goes.step (S' := T1.setTop (mkF m 6 #[.val (.int p1), .val (.int p2), .val (.int (own_bsf p1)), .unset, .unset, .unset] [(.int (own_bsf p1))])) (fun t k => XS.iloadN X1.here hx rfl (hb hby at_5) rfl k) ?_
  refine Goes.step (S' := T1.setTop (mkF m 7 #[.val (.int p1), .val (.int p2), .val (.int (own_bsf p1)), .unset, .unset, .unset] [(.int (-1 : Int32)), (.int (own_bsf p1))])) (fun t k => XS.iconst X1.here hx rfl (hb hby at_6) k) ?_
  have K34 : Goes p e below (R0 Z p1 p2 h0 n0 s) (T1.setTop (mkF m 34 #[.val (.int p1), .val (.int p2), .val (.int (own_bsf p1)), .unset, .unset, .unset] [(.int (1 : Int32))])) := by
    refine Goes.step (S' := T1.setTop (mkF m 35 #[.val (.int p1), .val (.int p2), .val (.int (own_bsf p1)), .val (.int (1 : Int32)), .unset, .unset] [])) (fun t k => XS.istoreN X1.here hx rfl (hb hby at_34) rfl (l' := #[.val (.int p1), .val (.int p2), .val (.int (own_bsf p1)), .val (.int (1 : Int32)), .unset, .unset]) rfl k) ?_
    refine Goes.step (S' := T1.setTop (mkF m 36 #[.val (.int p1), .val (.int p2), .val (.int (own_bsf p1)), .val (.int (1 : Int32)), .unset, .unset] [(.int p2)])) (fun t k => XS.iloadN X1.here hx rfl (hb hby at_35) rfl k) ?_
    refine Goes.step (S' := T1.setTop (mkF m 39 #[.val (.int p1), .val (.int p2), .val (.int (own_bsf p1)), .val (.int (1 : Int32)), .unset, .unset] [(.int (255 : Int32)), (.int p2)])) (fun t k => XS.sipush X1.here hx rfl (hb hby at_36) k) ?_
    refine Goes.step (S' := T1.setTop (mkF m 40 #[.val (.int p1), .val (.int p2), .val (.int (own_bsf p1)), .val (.int (1 : Int32)), .unset, .unset] [(.int (p2 &&& (255 : Int32)))])) (fun t k => XS.iand X1.here hx rfl (hb hby at_39) rfl k) ?_
    refine Goes.step (S' := T1.setTop (mkF m 42 #[.val (.int p1), .val (.int p2), .val (.int (own_bsf p1)), .val (.int (1 : Int32)), .val (.int (p2 &&& (255 : Int32))), .unset] [])) (fun t k => XS.istore X1.here hx rfl (hb hby at_40) rfl (l' := #[.val (.int p1), .val (.int p2), .val (.int (own_bsf p1)), .val (.int (1 : Int32)), .val (.int (p2 &&& (255 : Int32))), .unset]) rfl k) ?_
    refine Goes.step (S' := T1.setTop (mkF m 44 #[.val (.int p1), .val (.int p2), .val (.int (own_bsf p1)), .val (.int (1 : Int32)), .val (.int (p2 &&& (255 : Int32))), .unset] [(.int (56320 : Int32))])) (fun t k => X1.ldcInt hx hown (mvT hZ (hw _ (List.mem_of_getElem? (i := 5) rfl))) (g := (mkF m 42 #[.val (.int p1), .val (.int p2), .val (.int (own_bsf p1)), .val (.int (1 : Int32)), .val (.int (p2 &&& (255 : Int32))), .unset] [])) rfl (hb hby at_42) _ k) ?_
    refine Goes.step (S' := T1.setTop (mkF m 46 #[.val (.int p1), .val (.int p2), .val (.int (own_bsf p1)), .val (.int (1 : Int32)), .val (.int (p2 &&& (255 : Int32))), .unset] [(.int (p2 &&& (255 : Int32))), (.int (56320 : Int32))])) (fun t k => XS.iload X1.here hx rfl (hb hby at_44) rfl k) ?_
    refine Goes.step (S' := T1.setTop (mkF m 47 #[.val (.int p1), .val (.int p2), .val (.int (own_bsf p1)), .val (.int (1 : Int32)), .val (.int (p2 &&& (255 : Int32))), .unset] [(.int ((56320 : Int32) + (p2 &&& (255 : Int32))))])) (fun t k => XS.iadd X1.here hx rfl (hb hby at_46) rfl k) ?_
    obtain ⟨_, _, ⟨T3, L3, k3, n3⟩, -, X3, ⟨Lc3, hQ3, l3, y3, z3⟩, st3⟩ := Jvm.LawKit.callS X1 hx (y := (⟨"com/example/holdfast/holdfast/io/Disk", "byteStoodFor", "(I)I"⟩ : MethodName)) hown (mvT hZ (hw _ (List.mem_of_getElem? (i := 0) rfl))) (mvT hZ (hw _ (List.mem_of_getElem? (i := 1) rfl))) (mvT hZ (hw _ (List.mem_of_getElem? (i := 2) rfl))) (mvT hZ (hw _ (List.mem_of_getElem? (i := 3) rfl))) (by decide) (backOf (W := 0) (rm1 l Z a0 hw [] ((56320 : Int32) + (p2 &&& (255 : Int32))) h0 n0 Z0) hZ (hw _ (List.mem_of_getElem? (i := 3) rfl)) (hw _ (List.mem_of_getElem? (i := 2) rfl)) (by decide) (by decide)) (g := (mkF m 47 #[.val (.int p1), .val (.int p2), .val (.int (own_bsf p1)), .val (.int (1 : Int32)), .val (.int (p2 &&& (255 : Int32))), .unset] [(.int ((56320 : Int32) + (p2 &&& (255 : Int32))))])) rfl (by rw [hml]; rfl) (argsL := [(.int ((56320 : Int32) + (p2 &&& (255 : Int32))))]) (rest := []) (lenOf pd_1 rfl) rfl (by show 2 * 0 + _ ≤ _; exact Nat.le_of_eq rfl) (hb hby at_47) (fun _ _ => ⟨rfl, e1, (by decide : 0 + 0 ≤ _), (by decide : 0 + 0 ≤ _)⟩)
    dsimp only [Pt.U, Pt.locs, Pt.cells, Pt.slots] at X3 l3 y3 z3 st3 hQ3
    subst l3 y3 z3
    obtain ⟨rfl, N3q, e3⟩ := hQ3
    have N3 := Fr.app N1 N3q
    refine Goes.step (S' := T3.setTop (mkF m 50 #[.val (.int p1), .val (.int p2), .val (.int (own_bsf p1)), .val (.int (1 : Int32)), .val (.int (p2 &&& (255 : Int32))), .unset] [(.int (own_bsf ((56320 : Int32) + (p2 &&& (255 : Int32)))))])) (fun t k => st3 t k) ?_
    refine Goes.step (S' := T3.setTop (mkF m 52 #[.val (.int p1), .val (.int p2), .val (.int (own_bsf p1)), .val (.int (1 : Int32)), .val (.int (p2 &&& (255 : Int32))), .unset] [(.int (p2 &&& (255 : Int32))), (.int (own_bsf ((56320 : Int32) + (p2 &&& (255 : Int32)))))])) (fun t k => XS.iload X3.here hx rfl (hb hby at_50) rfl k) ?_
    refine Goes.step (S' := T3.setTop (mkF m 55 #[.val (.int p1), .val (.int p2), .val (.int (own_bsf p1)), .val (.int (1 : Int32)), .val (.int (p2 &&& (255 : Int32))), .unset] [])) (fun t k => XS.icmpNo X3.here hx rfl (hb hby at_52) rfl (teq (own_back p2)).2 k) ?_
    refine Goes.step (S' := T3.setTop (mkF m 56 #[.val (.int p1), .val (.int p2), .val (.int (own_bsf p1)), .val (.int (1 : Int32)), .val (.int (p2 &&& (255 : Int32))), .unset] [(.int (1 : Int32))])) (fun t k => XS.iconst X3.here hx rfl (hb hby at_55) k) ?_
    refine Goes.step (S' := T3.setTop (mkF m 60 #[.val (.int p1), .val (.int p2), .val (.int (own_bsf p1)), .val (.int (1 : Int32)), .val (.int (p2 &&& (255 : Int32))), .unset] [(.int (1 : Int32))])) (fun t k => XS.goto X3.here hx rfl (pc0 := 56) (pc' := 60) rfl (hb hby at_56) (by decide) (by decide) k) ?_
    refine Goes.step (S' := T3.setTop (mkF m 62 #[.val (.int p1), .val (.int p2), .val (.int (own_bsf p1)), .val (.int (1 : Int32)), .val (.int (p2 &&& (255 : Int32))), .val (.int (1 : Int32))] [])) (fun t k => XS.istore X3.here hx rfl (hb hby at_60) rfl (l' := #[.val (.int p1), .val (.int p2), .val (.int (own_bsf p1)), .val (.int (1 : Int32)), .val (.int (p2 &&& (255 : Int32))), .val (.int (1 : Int32))]) rfl k) ?_
    refine Goes.step (S' := T3.setTop (mkF m 63 #[.val (.int p1), .val (.int p2), .val (.int (own_bsf p1)), .val (.int (1 : Int32)), .val (.int (p2 &&& (255 : Int32))), .val (.int (1 : Int32))] [(.int (1 : Int32))])) (fun t k => XS.iloadN X3.here hx rfl (hb hby at_62) rfl k) ?_
    refine Goes.step (S' := T3.setTop (mkF m 66 #[.val (.int p1), .val (.int p2), .val (.int (own_bsf p1)), .val (.int (1 : Int32)), .val (.int (p2 &&& (255 : Int32))), .val (.int (1 : Int32))] [])) (fun t k => XS.ifNo X3.here hx rfl (hb hby at_63) rfl ((if0 _ _).trans (feq (by decide : ¬ (1 : Int32) = (0 : Int32))).1) k) ?_
    refine Goes.step (S' := T3.setTop (mkF m 68 #[.val (.int p1), .val (.int p2), .val (.int (own_bsf p1)), .val (.int (1 : Int32)), .val (.int (p2 &&& (255 : Int32))), .val (.int (1 : Int32))] [(.int (1 : Int32))])) (fun t k => XS.iload X3.here hx rfl (hb hby at_66) rfl k) ?_
    refine Goes.step (S' := T3.setTop (mkF m 71 #[.val (.int p1), .val (.int p2), .val (.int (own_bsf p1)), .val (.int (1 : Int32)), .val (.int (p2 &&& (255 : Int32))), .val (.int (1 : Int32))] [])) (fun t k => XS.ifNo X3.here hx rfl (hb hby at_68) rfl ((if0 _ _).trans (feq (by decide : ¬ (1 : Int32) = (0 : Int32))).1) k) ?_
    refine Goes.step (S' := T3.setTop (mkF m 72 #[.val (.int p1), .val (.int p2), .val (.int (own_bsf p1)), .val (.int (1 : Int32)), .val (.int (p2 &&& (255 : Int32))), .val (.int (1 : Int32))] [(.int (1 : Int32))])) (fun t k => XS.iconst X3.here hx rfl (hb hby at_71) k) ?_
    refine Goes.step (S' := T3.setTop (mkF m 76 #[.val (.int p1), .val (.int p2), .val (.int (own_bsf p1)), .val (.int (1 : Int32)), .val (.int (p2 &&& (255 : Int32))), .val (.int (1 : Int32))] [(.int (1 : Int32))])) (fun t k => XS.goto X3.here hx rfl (pc0 := 72) (pc' := 76) rfl (hb hby at_72) (by decide) (by decide) k) ?_
    obtain ⟨fs, hr, hrun, hended, hW, hsame⟩ := X3.leave (v := some (.int (1 : Int32))) (fun h => by rw [Bd.returns] at h; cases h)
    exact ⟨_, _, retN X3 hx (t := .boolean) Bd.returns (by simp) (hb hby at_76) hr, hrun, hended, _, _, rfl, ⟨rfl, N3⟩, ⟨_, rfl⟩, hW, hsame.mono (by decide) (by decide)⟩
  by_cases c1 : (own_bsf p1) = (-1 : Int32)
  · refine Goes.step (S' := T1.setTop (mkF m 29 #[.val (.int p1), .val (.int p2), .val (.int (own_bsf p1)), .unset, .unset, .unset] [])) (fun t k => XS.icmpYes X1.here hx rfl (pc0 := 7) (pc' := 29) rfl (hb hby at_7) rfl (teq c1).1 (by decide) (by decide) k) ?_
    refine Goes.step (S' := T1.setTop (mkF m 30 #[.val (.int p1), .val (.int p2), .val (.int (own_bsf p1)), .unset, .unset, .unset] [(.int (1 : Int32))])) (fun t k => XS.iconst X1.here hx rfl (hb hby at_29) k) ?_
    refine Goes.step (S' := T1.setTop (mkF m 34 #[.val (.int p1), .val (.int p2), .val (.int (own_bsf p1)), .unset, .unset, .unset] [(.int (1 : Int32))])) (fun t k => XS.goto X1.here hx rfl (pc0 := 30) (pc' := 34) rfl (hb hby at_30) (by decide) (by decide) k) ?_
    exact K34
  · refine Goes.step (S' := T1.setTop (mkF m 10 #[.val (.int p1), .val (.int p2), .val (.int (own_bsf p1)), .unset, .unset, .unset] [])) (fun t k => XS.icmpNo X1.here hx rfl (hb hby at_7) rfl (feq c1).1 k) ?_
    obtain ⟨g1, g2, g3⟩ := own_marked c1
    refine Goes.step (S' := T1.setTop (mkF m 11 #[.val (.int p1), .val (.int p2), .val (.int (own_bsf p1)), .unset, .unset, .unset] [(.int (own_bsf p1))])) (fun t k => XS.iloadN X1.here hx rfl (hb hby at_10) rfl k) ?_
    refine Goes.step (S' := T1.setTop (mkF m 14 #[.val (.int p1), .val (.int p2), .val (.int (own_bsf p1)), .unset, .unset, .unset] [])) (fun t k => XS.ifNo X1.here hx rfl (hb hby at_11) rfl ((if0 _ _).trans (flt g1).1) k) ?_
    refine Goes.step (S' := T1.setTop (mkF m 15 #[.val (.int p1), .val (.int p2), .val (.int (own_bsf p1)), .unset, .unset, .unset] [(.int (own_bsf p1))])) (fun t k => XS.iloadN X1.here hx rfl (hb hby at_14) rfl k) ?_
    refine Goes.step (S' := T1.setTop (mkF m 18 #[.val (.int p1), .val (.int p2), .val (.int (own_bsf p1)), .unset, .unset, .unset] [(.int (255 : Int32)), (.int (own_bsf p1))])) (fun t k => XS.sipush X1.here hx rfl (hb hby at_15) k) ?_
    refine Goes.step (S' := T1.setTop (mkF m 21 #[.val (.int p1), .val (.int p2), .val (.int (own_bsf p1)), .unset, .unset, .unset] [])) (fun t k => XS.icmpNo X1.here hx rfl (hb hby at_18) rfl (flt g2).2.2.1 k) ?_
    refine Goes.step (S' := T1.setTop (mkF m 22 #[.val (.int p1), .val (.int p2), .val (.int (own_bsf p1)), .unset, .unset, .unset] [(.int p1)])) (fun t k => XS.iloadN X1.here hx rfl (hb hby at_21) rfl k) ?_
    refine Goes.step (S' := T1.setTop (mkF m 24 #[.val (.int p1), .val (.int p2), .val (.int (own_bsf p1)), .unset, .unset, .unset] [(.int (56320 : Int32)), (.int p1)])) (fun t k => X1.ldcInt hx hown (mvT hZ (hw _ (List.mem_of_getElem? (i := 5) rfl))) (g := (mkF m 22 #[.val (.int p1), .val (.int p2), .val (.int (own_bsf p1)), .unset, .unset, .unset] [(.int p1)])) rfl (hb hby at_22) _ k) ?_
    refine Goes.step (S' := T1.setTop (mkF m 25 #[.val (.int p1), .val (.int p2), .val (.int (own_bsf p1)), .unset, .unset, .unset] [(.int (own_bsf p1)), (.int (56320 : Int32)), (.int p1)])) (fun t k => XS.iloadN X1.here hx rfl (hb hby at_24) rfl k) ?_
    refine Goes.step (S' := T1.setTop (mkF m 26 #[.val (.int p1), .val (.int p2), .val (.int (own_bsf p1)), .unset, .unset, .unset] [(.int ((56320 : Int32) + (own_bsf p1))), (.int p1)])) (fun t k => XS.iadd X1.here hx rfl (hb hby at_25) rfl k) ?_
    refine Goes.step (S' := T1.setTop (mkF m 29 #[.val (.int p1), .val (.int p2), .val (.int (own_bsf p1)), .unset, .unset, .unset] [])) (fun t k => XS.icmpNo X1.here hx rfl (hb hby at_26) rfl (teq g3).2 k) ?_
    refine Goes.step (S' := T1.setTop (mkF m 30 #[.val (.int p1), .val (.int p2), .val (.int (own_bsf p1)), .unset, .unset, .unset] [(.int (1 : Int32))])) (fun t k => XS.iconst X1.here hx rfl (hb hby at_29) k) ?_
    refine Goes.step (S' := T1.setTop (mkF m 34 #[.val (.int p1), .val (.int p2), .val (.int (own_bsf p1)), .unset, .unset, .unset] [(.int (1 : Int32))])) (fun t k => XS.goto X1.here hx rfl (pc0 := 30) (pc' := 34) rfl (hb hby at_30) (by decide) (by decide) k) ?_
    exact K34
set_option maxRecDepth 65536 in
set_option maxHeartbeats 40000000 in
theorem comes_1 {Post : Tables → Env → Array Value → State → Outcome → State → Prop} (hpost : ∀ tb e args s v u, (limb_1_1.after args s (.returned v) u = true ∧ limb_1_2.after args s (.returned v) u = true ∧ True) → FrameEnd s (.returned v) u (Jvm.fieldLocs frame_1_writes args s ++ Jvm.arrayLocs frame_1_arrays args s ++ Jvm.staticLocs frame_1_statics s) 0 0 → Post tb e args s (.returned v) u) :
    ArmFor flags0 classFile x code maxLocals ret World_1 tables_1 room_1 Calls_1 rest_1 Pre_1 Post := by
  intro l hfl _ _ p e ha hc hk s m args below hf hA hF happ hP
  obtain ⟨hcalls, hrest, hpre⟩ := hP
  obtain ⟨-, -, -, hnamed, -, -, -, hat⟩ := (Spec.applies_iff hf).mp happ
  obtain ⟨hg, hn⟩ := and_e (Cond.before_iff.mp (show (Jvm.Cond.and given_1 narrow_1).before args s = true from hpre))
  obtain ⟨h1, ha0⟩ := and_e hg
  obtain ⟨w0, w1, rfl⟩ : ∃ w0 w1 : Value, args = #[w0, w1] := by
    have hs : args.size = 2 := by simpa [Cond.value, given_1] using h1
    obtain ⟨L⟩ := args
    match L, hs with
    | [w0, w1], _ => exact ⟨w0, w1, rfl⟩
  have hw := fun d (hd : d ∈ tables_1) => atoms_spec (ws := Jvm.Cond.code x code maxLocals ret :: tables_1) hat d (List.mem_cons_of_mem _ hd)
  have hfit : Fit s := fun {y c} hc i hi => by
    obtain ⟨ha, rfl⟩ := Array.getElem?_eq_some_iff.mp hc
    have q := List.all_eq_true.mp ((Array.all_eq_true_iff_forall_mem.mp hF) _ (Array.getElem_mem ha)) i (List.mem_range.mpr hi)
    simpa [Array.getElem?_eq_getElem hi] using q
  obtain ⟨hv0, ha1⟩ := and_e ha0
  obtain ⟨i0, ei0⟩ := is_v hv0
  obtain rfl : w0 = (.int i0) := Option.some.inj ei0
  obtain ⟨i1, ei1⟩ := is_v ha1
  obtain rfl : w1 = (.int i1) := Option.some.inj ei1
  obtain ⟨n, o, h1, h2, h3, _, L, rfl, ⟨rfl, N⟩, hq⟩ := rm0 l s _ hw tables_1 i0 i1  s.heap s.heap.size (Nat.le_refl _)  p e ha hc hk s m _ below hf ((Spec.applies_iff_loose hf).mp happ).1 ⟨rfl, State.Warmed39.refl s, rfl⟩ trivial
  refine ⟨n, _, h1, h2, h3, hpost _ _ _ _ _ _ ⟨Cond.after_iff.mpr rfl, Cond.after_iff.mpr (eq_i res_at (Term.int_eval (1)) rfl), trivial⟩ ⟨hq.1, hq.2.1, (hq.2.2.sift fun y hy => Or.inr (N y hy)).mono (by decide) (by decide)⟩⟩
theorem main_1_1 : Claimed_1_1 := comes_1 fun _ _ _ _ _ _ h hF => ⟨h.1, hF⟩
theorem main_1_2 : Claimed_1_2 := comes_1 fun _ _ _ _ _ _ h hF => ⟨h.2.1, hF⟩
end Jvm.Pilot.@@N@@
namespace Jvm.Pilot.@@N@@
open Jvm Jvm.ClassFile Sem Op Lib Jvm.Free Jvm.Stand Jvm.Pilot.@@N@@.Jvm.D
/-! MADE BY PROGRAM (witnessworld.py) out of the Statement's table words and the real class files: 9 classes; the members and pool entries that the words name. The judged class is class 1, her method 1. -/
namespace start1
open Jvm.ClassFile
def u (s : String) : CpInfo := .utf8 (stringToUtf16 s)
/-- a pool by its gaps: so many unusable entries, then the entry; so many at the end -/
def gap : Nat → List CpInfo → List CpInfo
  | 0, r => r
  | n + 1, r => .unusable :: gap n r
def poolList (es : List (Nat × CpInfo)) (last : Nat) : List CpInfo := es.foldr (fun e r => gap e.1 (e.2 :: r)) (gap last [])
def pool (es : List (Nat × CpInfo)) (last : Nat) : Array CpInfo := ⟨poolList es last⟩
def fileOf (pool : Array CpInfo) (this : Nat) (attrs : Array Attribute := #[]) (ms : Array MethodInfo := #[]) (fl : Nat := 33) (sup : Nat := 0) (ifs : Array Nat := #[]) (fds : Array FieldInfo := #[]) : ClassFile where
  minorVersion := 0
  majorVersion := 65
  constantPool := pool
  accessFlags := fl
  thisClass := this
  superClass := sup
  interfaces := ifs
  fields := fds
  methods := ms
  attributes := attrs
def plain (name : String) (sup : Option ClassId) : Class where
  name := name
  kind := .ordinary
  loader := none
  accessFlags := 33
  super := sup
  interfaces := #[]
  cf := none
  fields := #[]
  methods := #[]
  instanceTypes := #[]
  staticTypes := #[]
  resolved := #[]
  callSites := []
  init := .initialized
  statics := none
  mirror := none

def pool0 : Array CpInfo := pool [(5, u "<init>"), (0, u "()V"), (1, .class_ 10), (1, u "java/lang/Object")] 113

def k0m0 : Method := { name := "<init>", desc := "()V", sig := { parameters := [], returnType := none }, accessFlags := 1, code := none }
/-- java/lang/Object -/
def k0 : Class := { plain "java/lang/Object" none with
  accessFlags := 33
  interfaces := #[]
  cf := some (fileOf pool0 8 #[] #[{ accessFlags := 1, nameIndex := 5, descriptorIndex := 6, attributes := #[] }] 33 0 #[] #[])
  fields := #[]
  methods := #[k0m0]
  instanceTypes := #[]
  staticTypes := #[]
  resolved := Array.replicate 124 none
  statics := none }

def pool1 : Array CpInfo := pool [(2, .class_ 4), (1, u "java/lang/Object"), (0, u "<init>"), (0, u "()V"), (0, .methodref 8 9), (0, .class_ 10), (0, .nameAndType 11 12), (0, u "com/example/holdfast/holdfast/io/Disk"), (0, u "byteStoodFor"), (0, u "(I)I"), (0, .integer 56320), (0, .class_ 15), (0, u "com/example/holdfast/holdfast/io/DiskByteStoodForPinLaw"), (2, u "law"), (0, u "(II)Z")] 3

def k1m0 : Method := { name := "<init>", desc := "()V", sig := { parameters := [], returnType := none }, accessFlags := 2, code := none }
def k1c1 : Code := { maxStack := 3, maxLocals := 6, code := code, exceptionTable := #[], attributes := #[] }
def k1m1 : Method := { name := "law", desc := "(II)Z", sig := { parameters := [.int, .int], returnType := some .boolean }, accessFlags := 9, code := some k1c1 }
/-- com/example/holdfast/holdfast/io/DiskByteStoodForPinLaw -/
def k1 : Class := { plain "com/example/holdfast/holdfast/io/DiskByteStoodForPinLaw" (some 0) with
  accessFlags := 49
  interfaces := #[]
  cf := some (fileOf pool1 14 #[] #[{ accessFlags := 2, nameIndex := 5, descriptorIndex := 6, attributes := #[] }, { accessFlags := 9, nameIndex := 18, descriptorIndex := 19, attributes := #[] }] 49 2 #[] #[])
  fields := #[]
  methods := #[k1m0, k1m1]
  instanceTypes := #[]
  staticTypes := #[]
  resolved := Array.replicate 23 none
  statics := none }

def pool2 : Array CpInfo := pool [(2, .class_ 4), (1, u "java/lang/Object"), (0, u "<init>"), (0, u "()V"), (28, .class_ 37), (1, u "com/example/holdfast/holdfast/io/Disk$Name"), (6, .class_ 45), (0, u "com/example/holdfast/holdfast/io/Disk$Entry"), (39, .class_ 86), (0, u "com/example/holdfast/holdfast/io/Disk"), (0, .integer 56320), (0, .integer 56575), (14, u "BYTE_MARK"), (0, u "I"), (11, u "byteStoodFor"), (0, u "(I)I")] 8

def k2m0 : Method := { name := "<init>", desc := "()V", sig := { parameters := [], returnType := none }, accessFlags := 2, code := none }
def k2c1 : Code := { maxStack := 2, maxLocals := 1, code := prog_1_method_3_code, exceptionTable := #[], attributes := #[] }
def k2m1 : Method := { name := "byteStoodFor", desc := "(I)I", sig := { parameters := [.int], returnType := some .int }, accessFlags := 9, code := some k2c1 }
/-- com/example/holdfast/holdfast/io/Disk -/
def k2 : Class := { plain "com/example/holdfast/holdfast/io/Disk" (some 0) with
  accessFlags := 49
  interfaces := #[]
  cf := some (fileOf pool2 85 #[.nestMembers #[35, 44]] #[{ accessFlags := 2, nameIndex := 5, descriptorIndex := 6, attributes := #[] }, { accessFlags := 9, nameIndex := 116, descriptorIndex := 117, attributes := #[] }] 49 2 #[] #[{ accessFlags := 26, nameIndex := 103, descriptorIndex := 104, attributes := #[] }])
  fields := #[{ name := "BYTE_MARK", type := .int, accessFlags := 26, slot := 0, constantValue := 0 }]
  methods := #[k2m0, k2m1]
  instanceTypes := #[]
  staticTypes := #[.int]
  resolved := Array.replicate 126 none
  statics := none }

def pool3 : Array CpInfo := pool [(1, u "java/lang/Cloneable"), (0, .class_ 1), (0, u "java/lang/Object"), (0, .class_ 3)] 3

/-- java/lang/Cloneable -/
def k3 : Class := { plain "java/lang/Cloneable" (some 0) with
  accessFlags := 1537
  interfaces := #[]
  cf := some (fileOf pool3 2 #[] #[] 1537 4 #[] #[])
  fields := #[]
  methods := #[]
  instanceTypes := #[]
  staticTypes := #[]
  resolved := Array.replicate 8 none
  statics := none }

def pool4 : Array CpInfo := pool [(1, u "java/io/Serializable"), (0, .class_ 1), (0, u "java/lang/Object"), (0, .class_ 3)] 3

/-- java/io/Serializable -/
def k4 : Class := { plain "java/io/Serializable" (some 0) with
  accessFlags := 1537
  interfaces := #[]
  cf := some (fileOf pool4 2 #[] #[] 1537 4 #[] #[])
  fields := #[]
  methods := #[]
  instanceTypes := #[]
  staticTypes := #[]
  resolved := Array.replicate 8 none
  statics := none }

/-- the primitive byte -/
def k5 : Class := { plain "byte" none with kind := .primitive 'B', accessFlags := 0x411 }
/-- [B -/
def k6 : Class := { plain "[B" (some 0) with kind := .array 5 .byte, interfaces := #[3, 4], accessFlags := 1041 }

/-- the primitive int -/
def k7 : Class := { plain "int" none with kind := .primitive 'I', accessFlags := 0x411 }
/-- [I -/
def k8 : Class := { plain "[I" (some 0) with kind := .array 7 .int, interfaces := #[3, 4], accessFlags := 1041 }

def heap : Heap := #[]
def classes : Array Class := #[k0, k1, k2, k3, k4, k5, k6, k7, k8]
def interned : List (Array UInt16 × Addr) := []
def slotsUsed : Nat := 0
def theMethod : MethodId := ⟨1, 1⟩
def args0 : Array Value := #[.int 56321, .int 300]
def aboutOver (below : List Frame) : State where
  vm := { classes := classes, interned := interned.toArray }
  heap := heap
  slotsUsed := slotsUsed
  threads := #[{ frames := .invoking theMethod args0 :: below }]
def below0 : List Frame := [.native { method := ⟨0, 0⟩, args := #[] }]
def about1 : State := aboutOver below0
def p0 : Program := .bare "" "" ""
def e0 : Env := launch0.env 0 0 0
theorem w_frames : about1.frames = Frame.invoking theMethod args0 :: below0 := rfl
set_option maxRecDepth 65536 in
theorem w_args : argsFit about1.vm theMethod args0 = true := by decide +kernel
set_option maxRecDepth 65536 in
theorem w_heap : heapFits about1 = true := by decide +kernel
set_option maxRecDepth 65536 in
theorem w_runnable : about1.curStatus? = some .runnable := by decide +kernel
set_option maxRecDepth 65536 in
theorem w_alone : about1.alone = true := by decide +kernel
set_option maxRecDepth 65536 in
theorem w_named : about1.methodNamed? x = some theMethod := by decide +kernel
set_option maxRecDepth 65536 in
theorem w_hears : about1.hears theMethod below0 = true := by decide +kernel
set_option maxRecDepth 65536 in
theorem w_ripe : about1.ripe theMethod args0 below0 = true := by decide +kernel
theorem w_running : about1.status = .running := rfl
set_option maxRecDepth 65536 in
theorem w_room : about1.hasRoom e0.platform room_1 = true :=
  launch0.hasRoom_least _ room_1 (by decide +kernel) (by decide +kernel) (by decide +kernel) (by decide +kernel) (by decide +kernel) (by decide +kernel)
theorem allAtoms_all (ts : List Jvm.Cond) (a : Array Jvm.Value) (st : Jvm.State) : (allAtoms ts).before a st = ts.all (fun c => c.before a st) := by
  induction ts with
  | nil => rfl
  | cons c t ih =>
    show (Jvm.Cond.and c (allAtoms t)).before a st = _
    rw [Jvm.Cond.before_and, ih, List.all_cons]
def words1 : List Jvm.Cond := Jvm.Cond.code x code maxLocals ret :: tables_1
/-- a 'code' word, met by the world's own term for the bytes: nothing is compared byte by byte -/
theorem code_word {y : MethodName} {bytes : ByteArray} {mx : Nat} {rt : Option FieldType} {a : Array Value} {s : State} {m : MethodId} {meth : Method} {c : Code} (h1 : s.methodNamed? y = some m) (h2 : s.vm.method? m = some meth) (h3 : meth.code = some c) (h4 : c.code = bytes)
    (h5 : (c.maxLocals == mx && c.exceptionTable.isEmpty && decide (c.maxStack ≤ mostOperands) && decide (meth.sig.returnType = rt) && !meth.locks && decide (parseMethodDescriptor y.desc = some meth.sig)) = true) : (Jvm.Cond.code y bytes mx rt).before a s = true := by
  simp only [Bool.and_eq_true, beq_iff_eq, Bool.not_eq_true', decide_eq_true_eq] at h5
  obtain ⟨⟨⟨⟨⟨g1, g2⟩, g3⟩, g4⟩, g5⟩, g6⟩ := h5
  simp [Cond.before, Cond.holds, Cond.value, h1, h2, h3, h4, g1, g2, g3, g4, g5, g6]
def isCode : Jvm.Cond → Bool
  | .code _ _ _ _ => true
  | _ => false
theorem all_split {L : List Jvm.Cond} {P : Jvm.Cond → Bool} (h1 : L.all (fun c => isCode c || P c) = true) (h2 : ∀ c ∈ L.filter isCode, P c = true) : L.all P = true := by
  refine List.all_eq_true.mpr fun c hc => ?_
  have h := List.all_eq_true.mp h1 c hc
  rcases Bool.eq_false_or_eq_true (isCode c) with hi | hi
  · exact h2 c (List.mem_filter.mpr ⟨hc, hi⟩)
  · simpa [hi] using h
set_option maxRecDepth 65536 in
theorem w_c0 : (Jvm.Cond.code x code maxLocals ret).before args0 about1 = true := code_word (m := ⟨1, 1⟩) (meth := k1m1) (c := k1c1) (by decide +kernel) rfl rfl rfl (by decide +kernel)
set_option maxRecDepth 65536 in
theorem w_c1 : (Jvm.Cond.code ({ cls := "com/example/holdfast/holdfast/io/Disk", name := "byteStoodFor", desc := "(I)I" } : Jvm.MethodName) prog_1_method_3_code (1 : Nat) (Option.some Jvm.ClassFile.FieldType.int)).before args0 about1 = true := code_word (m := ⟨2, 1⟩) (meth := k2m1) (c := k2c1) (by decide +kernel) rfl rfl rfl (by decide +kernel)
def codes1 : List Jvm.Cond := [Jvm.Cond.code x code maxLocals ret, Jvm.Cond.code ({ cls := "com/example/holdfast/holdfast/io/Disk", name := "byteStoodFor", desc := "(I)I" } : Jvm.MethodName) prog_1_method_3_code (1 : Nat) (Option.some Jvm.ClassFile.FieldType.int)]
set_option maxRecDepth 65536 in
theorem codes_eq : words1.filter isCode = codes1 := rfl
theorem w_codes : ∀ c ∈ words1.filter isCode, c.before args0 about1 = true := by
  rw [codes_eq]
  intro c hc
  simp only [codes1, List.mem_cons, List.not_mem_nil, or_false] at hc
  rcases hc with rfl | rfl
  · exact w_c0
  · exact w_c1
set_option maxRecDepth 65536 in
theorem w_t1 : words1.all (fun c => isCode c || c.before args0 about1) = true := by decide +kernel
theorem w_tables : (allAtoms (Jvm.Cond.code x code maxLocals ret :: tables_1)).before args0 about1 = true := by
  rw [allAtoms_all]
  show words1.all (fun c => c.before args0 about1) = true
  refine all_split ?_ w_codes
  rw [w_t1]
set_option maxRecDepth 65536 in
theorem w_case : (Jvm.Cond.and given_1 narrow_1).before args0 about1 = true := by decide +kernel
theorem w_applies : (headSpec (Jvm.Cond.code x code maxLocals ret :: tables_1) room_1).applies x e0.platform about1 = true :=
  (Spec.applies_iff w_frames).mpr ⟨w_running, w_runnable, w_alone, w_named, w_hears, w_ripe, w_room, w_tables⟩
theorem atStart : AtStart classFile x code maxLocals ret World_1 tables_1 room_1 Calls_1 rest_1 Pre_1 launch0 p0 e0 about1 theMethod args0 below0 :=
  ⟨lists_1, trivial, launch0.admits_env _ _ _, launch0.least_env, fairChoices_fair.cas, fairChoices_fair.clock, w_frames, w_args, w_heap, w_applies, trivial, trivial, w_case⟩
end start1
theorem witness_1 : WitnessClaimed_1 := ⟨start1.p0, start1.e0, start1.about1, start1.theMethod, start1.args0, start1.below0, start1.atStart⟩
end Jvm.Pilot.@@N@@
