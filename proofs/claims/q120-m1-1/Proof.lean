import JvmDerived
import JvmDerived.Pilot.@@N@@Statement
import JvmDerived.Pilot.@@N@@Code
set_option linter.unusedVariables false
set_option linter.unusedSimpArgs false
@@BLOCK:NumsL.lean.txt@@
namespace Jvm.RoadKit
open Sem ClassFile Op Lib Jvm.Stand Jvm.Free Jvm.LawKit
section New
variable {p : Program} {l : Launch} {e : Env} {R : Room} {s : State} {m : MethodId} {args : Array Value} {below : List Frame} {meth : Method} {c : Code} {T : State} {locs : List Loc} {cells slots : Nat}
theorem retI (X : Stand p l e R s m args below meth c T locs cells slots) (hx : p.tables.exec = Jvm.exec) {pc : Nat} {Ls : Array Slot} {z : Int32} {rest : List Value} (hret : meth.sig.returnType = some .int) (hd : decode c.code pc = .ok (.ireturn, 1)) {fs : List Frame}
    (hl : ∀ (f : JFrame) (acts : List Action), f.method = m → f.locked = none → f.entered = [] → (doReturn e (T.setTop f) acts (some (.int z))).1 = T.setFrames fs) : Steps p.tables e below (T.setTop (mkF m pc Ls (.int z :: rest))) (T.setFrames fs) := by
  have hm' : T.vm.method? m = some meth := X.method'
  have hn : narrow .int (.int z) = .int z := rfl
  show Steps p.tables e below (T.setTop { method := m, pc := pc, locals := Ls, stack := _ :: rest, locked := none }) _
  jvm_step X.here [X.here.top, hx, hd, hm', hret, hn]
  first | (intro acts; rw [hl _ acts rfl rfl rfl]) | rw [hl _ _ rfl rfl rfl]
  exact Steps.refl _
end New
end Jvm.RoadKit
namespace Jvm.Pilot.@@N@@
open Jvm Jvm.ClassFile Sem Op Lib Jvm.Free Jvm.Stand Jvm.LawKit Jvm.RoadKit Bundle Jvm.Pilot.@@N@@.Jvm.D
def own_min (a b : Int64) : Int64 := if b < a then b else a
def own_maxI (a b : Int32) : Int32 := if a < b then b else a
def own_dur (q : Int64) (w : Int32) : Int32 := if q = 0 then w else if w.toInt64 < q then w else q.toInt32
theorem own_mask (x : Int32) : (x &&& (2147483647 : Int32)).toInt = x.toInt % 2 ^ 31 := Jvm.Kit.i32_mask x 2147483647 (k := 31) (by decide) (by decide)
theorem own_mm {x : Int32} (h : ¬ (x &&& (2147483647 : Int32)) = (0 : Int32)) : 1 ≤ (x &&& (2147483647 : Int32)).toInt := by
  have e := own_mask x
  have g : (x &&& (2147483647 : Int32)).toInt ≠ 0 := fun q => h (Int32.toInt_inj.mp q)
  omega
theorem own_nz {m : Int32} (h : 1 ≤ m.toInt) : m ≠ (0 : Int32) := fun q => by rw [q] at h; exact absurd h (by decide)
theorem own_dd (d : Int32) {m : Int32} (h : 1 ≤ m.toInt) : ¬ ((1 : Int32) + (d &&& (2147483647 : Int32)) % m) < (1 : Int32) ∧ ¬ m < ((1 : Int32) + (d &&& (2147483647 : Int32)) % m) := by
  have e := own_mask d
  have r : ((d &&& (2147483647 : Int32)) % m).toInt = (d &&& (2147483647 : Int32)).toInt % m.toInt := Jvm.Kit.i32_rem_nonneg (by omega)
  have l1 := Int.emod_nonneg (d &&& (2147483647 : Int32)).toInt (show m.toInt ≠ 0 by omega)
  have l2 := Int.emod_lt_of_pos (d &&& (2147483647 : Int32)).toInt (show 0 < m.toInt by omega)
  have l3 := m.toInt_lt
  have e1 : (1 : Int32).toInt = 1 := rfl
  have a := Jvm.Kit.i32_add (p := 1) (q := (d &&& (2147483647 : Int32)) % m) (by omega) (by omega)
  refine ⟨?_, ?_⟩ <;> rw [Int32.lt_iff_toInt_lt] <;> omega
theorem own_rr (r : Int32) : ¬ own_maxI (1 : Int32) r < (1 : Int32) := by
  unfold own_maxI
  by_cases h : (1 : Int32) < r
  · rw [if_pos h]
    rw [Int32.lt_iff_toInt_lt] at *; omega
  · rw [if_neg h]; decide
theorem own_q1 (q : Int64) : 0 ≤ (q &&& (9223372036854775807 : Int64)).toInt := by
  have e : (q &&& 9223372036854775807).toInt = q.toInt % 2 ^ 63 := Jvm.Kit.i64_mask q 9223372036854775807 (k := 63) (by decide) (by decide)
  omega
theorem own_q31 (q : Int64) : (q &&& (2147483647 : Int64)).toInt = q.toInt % 2 ^ 31 := Jvm.Kit.i64_mask q 2147483647 (k := 31) (by decide) (by decide)
theorem own_m1 {m : Int32} (h : 1 ≤ m.toInt) : (m.toInt64 + (1 : Int64)).toInt = m.toInt + 1 := by
  have e := Jvm.Kit.i64_of_i32 m
  have e1 : (1 : Int64).toInt = 1 := rfl
  have l3 := m.toInt_lt
  have a := Jvm.Kit.i64_add (x := m.toInt64) (y := 1) (by omega) (by omega)
  omega
theorem own_m1nz {m : Int32} (h : 1 ≤ m.toInt) : (m.toInt64 + (1 : Int64)) ≠ (0 : Int64) := fun q => by
  have e := own_m1 h
  rw [q] at e
  have e1 : (0 : Int64).toInt = 0 := rfl
  omega
theorem own_q2 (q : Int64) {m : Int32} (h : 1 ≤ m.toInt) : 0 ≤ ((q &&& (2147483647 : Int64)) - (q &&& (2147483647 : Int64)) / (m.toInt64 + (1 : Int64)) * (m.toInt64 + (1 : Int64))).toInt := by
  have e := own_q31 q
  rw [Jvm.Kit.i64_rem_nonneg (by omega)]
  exact Int.emod_nonneg _ (by rw [own_m1 h]; omega)
theorem own_q3 (q : Int64) {m : Int32} (h : 1 ≤ m.toInt) : 0 ≤ (m.toInt64 + (q &&& (2147483647 : Int64))).toInt := by
  have e := own_q31 q
  have e2 := Jvm.Kit.i64_of_i32 m
  have l3 := m.toInt_lt
  have a := Jvm.Kit.i64_add (x := m.toInt64) (y := q &&& (2147483647 : Int64)) (by omega) (by omega)
  omega
theorem own_same {q : Int64} {m : Int32} (h : ¬ q = 0) : own_dur q m = (own_min q m.toInt64).toInt32 := by
  unfold own_dur own_min
  rw [if_neg h]
  by_cases g : m.toInt64 < q
  · rw [if_pos g, if_pos g]; simp
  · rw [if_neg g, if_neg g]
theorem own_dur0 {m : Int32} : own_dur 0 m = m := by unfold own_dur; simp
theorem own_dur_i {q : Int64} {m : Int32} (hm : 1 ≤ m.toInt) (hq : 0 ≤ q.toInt) : 1 ≤ (own_dur q m).toInt ∧ (own_dur q m).toInt ≤ m.toInt := by
  unfold own_dur
  by_cases h : q = 0
  · rw [if_pos h]; exact ⟨hm, Int.le_refl _⟩
  · rw [if_neg h]
    have hz : q.toInt ≠ 0 := fun z => h (Int64.toInt_inj.mp z)
    have e2 := Jvm.Kit.i64_of_i32 m
    have l3 := m.toInt_lt
    by_cases g : m.toInt64 < q
    · rw [if_pos g]; exact ⟨hm, Int.le_refl _⟩
    · rw [if_neg g]
      rw [Int64.lt_iff_toInt_lt] at g
      have a := Jvm.Kit.i32_of_i64 (x := q) (by omega) (by omega)
      omega
theorem own_dur_lo {q : Int64} {m : Int32} (hm : 1 ≤ m.toInt) (hq : 0 ≤ q.toInt) : ¬ own_dur q m < (1 : Int32) := by
  have := own_dur_i hm hq
  have e1 : (1 : Int32).toInt = 1 := rfl
  rw [Int32.lt_iff_toInt_lt]; omega
theorem own_dur_hi {q : Int64} {m : Int32} (hm : 1 ≤ m.toInt) (hq : 0 ≤ q.toInt) : ¬ m < own_dur q m := by
  have := own_dur_i hm hq
  rw [Int32.lt_iff_toInt_lt]; omega
theorem own_lcW (x y : Int64) : lcmpW x y = if x > y then (1 : Int32) else if x = y then 0 else -1 := rfl
theorem own_lc0 {x y : Int64} (h : x = y) : lcmpW x y = (0 : Int32) := by subst h; rw [own_lcW]; simp
theorem own_lc_nlt {x y : Int64} (h : ¬ x < y) : ¬ lcmpW x y < (0 : Int32) := by
  rw [own_lcW]
  by_cases g : x > y
  · rw [if_pos g]; decide
  · have e : x = y := Int64.le_antisymm (Int64.not_lt.mp g) (Int64.not_lt.mp h)
    rw [if_neg g, if_pos e]; decide
theorem own_lc_ngt {x y : Int64} (h : ¬ y < x) : ¬ (0 : Int32) < lcmpW x y := by
  rw [own_lcW]
  rw [if_neg h]
  by_cases g : x = y
  · rw [if_pos g]; decide
  · rw [if_neg g]; decide
theorem own_lc_lt {x y : Int64} (h : x < y) : lcmpW x y < (0 : Int32) := by
  rw [own_lcW]
  rw [if_neg (fun q => Int64.lt_irrefl (Int64.lt_trans h q)), if_neg (fun q => Int64.lt_irrefl (q ▸ h))]; decide
theorem own_lc_gt {x y : Int64} (h : y < x) : (0 : Int32) < lcmpW x y := by
  rw [own_lcW]
  rw [if_pos h]; decide
theorem own_lcne {x y : Int64} (h : ¬ x = y) : ¬ lcmpW x y = (0 : Int32) := by
  rw [own_lcW]
  by_cases g : x > y
  · rw [if_pos g]; decide
  · rw [if_neg g, if_neg h]; decide
/-- from S the run comes to a return at which R holds -/
def Goes (p : Program) (e : Env) (below : List Frame) (R : State → Outcome → Prop) (S : State) : Prop := ∃ s₂ o, Steps p.tables e below S s₂ ∧ s₂.status = .running ∧ Ended s₂ below o ∧ R s₂ o
theorem Goes.step {p : Program} {e : Env} {below : List Frame} {R : State → Outcome → Prop} {S S' : State} (h : ∀ t, Steps p.tables e below S' t → Steps p.tables e below S t) (g : Goes p e below R S') : Goes p e below R S := by
  obtain ⟨s₂, o, h1, h2⟩ := g
  exact ⟨s₂, o, h _ h1, h2⟩
theorem d1_0 : decode jdk_29_method_65_code 0 = .ok (.iload_n 0, 1) := by decide +kernel
theorem d1_1 : decode jdk_29_method_65_code 1 = .ok (.iload_n 1, 1) := by decide +kernel
theorem d1_2 : decode jdk_29_method_65_code 2 = .ok (.if_icmp .lt 7, 3) := by decide +kernel
theorem d1_5 : decode jdk_29_method_65_code 5 = .ok (.iload_n 0, 1) := by decide +kernel
theorem d1_6 : decode jdk_29_method_65_code 6 = .ok (.goto 4, 3) := by decide +kernel
theorem d1_9 : decode jdk_29_method_65_code 9 = .ok (.iload_n 1, 1) := by decide +kernel
theorem d1_10 : decode jdk_29_method_65_code 10 = .ok (.ireturn, 1) := by decide +kernel
theorem pd_1 : parseMethodDescriptor "(II)I" = some ⟨[.int, .int], some .int⟩ := by decide +kernel
theorem ef_1 (m : MethodId) (y0 : Int32) (y1 : Int32) : entryFrame m #[(.int y0), (.int y1)] 2 = mkF m 0 #[.val (.int y0), .val (.int y1)] [] := by first | (simp [entryFrame, mkF, argsToLocals, Value.category]; done) | rfl
def Q1 (Z : State) (p1 : Int32) (p2 : Int32) (h0 : Heap) (n0 : Nat) (v : Option Value) (h : Heap) (L : List Loc) : Prop := v = some (.int (own_maxI p1 p2)) ∧ Fr n0 L ∧ h = h0
def R1 (Z : State) (p1 : Int32) (p2 : Int32) (h0 : Heap) (n0 : Nat) (U : State) (U' : State) (o : Outcome) : Prop := ∃ v L, o = .returned v ∧ Q1 Z p1 p2 h0 n0 v U'.heap L ∧ FrameEnd U o U' L ({ frames := 0, cells := 0, slots := 0, locals := 0 } : Room).cells ({ frames := 0, cells := 0, slots := 0, locals := 0 } : Room).slots
set_option maxRecDepth 65536 in
set_option maxHeartbeats 40000000 in
theorem rm1 (l : Launch) (Z : State) (a0 : Array Value) (hw : ∀ d ∈ tables_1, d.before a0 Z = true) (ws : List Jvm.Cond) (p1 : Int32) (p2 : Int32) (h0 : Heap) (n0 : Nat) (Z0 : n0 ≤ h0.size)  :
    MetFree l (⟨"java/lang/Math", "max", "(II)I"⟩ : MethodName) (head1 (Jvm.Cond.code (⟨"java/lang/Math", "max", "(II)I"⟩ : MethodName) jdk_29_method_65_code 2 (some .int) :: ws) ({ frames := 0, cells := 0, slots := 0, locals := 0 } : Room)) (fun a U => a = #[(.int p1), (.int p2)] ∧ Z.Warmed39 U.vm ∧ U.heap = h0) (fun _ _ _ _ _ => True) (fun _ U o U' => ∃ v L, o = .returned v ∧ Q1 Z p1 p2 h0 n0 v U'.heap L ∧ FrameEnd U o U' L ({ frames := 0, cells := 0, slots := 0, locals := 0 } : Room).cells ({ frames := 0, cells := 0, slots := 0, locals := 0 } : Room).slots) := by
  refine MetFree.of_bodySF (Jvm.Free.JP.mathPlain rfl (by decide +kernel)) hisR ?_
  intro p e s m args below meth c s₁ Bd hml0 hP hK
  obtain ⟨rfl, hZ, hh⟩ := hP
  have hx := Bd.exec
  have hby := Bd.bytes
  have hml : c.maxLocals = 2 := hml0
  have hown : s.vm.findClass "java/lang/Math" = some m.cls := findClass_of_methodNamed Bd.named
  have hnm := (name_of_methodNamed Bd.named Bd.method).1
  have X0 : Stand p l e ({ frames := 0, cells := 0, slots := 0, locals := 0 } : Room) s m #[(.int p1), (.int p2)] below meth c s₁ [] 0 0 := Stand.of_body Bd
  have e0 : s₁.heap = h0 := by rw [← hh, Bd.state]; rfl
  have N0 := Fr.nil n0
  show Goes p e below (R1 Z p1 p2 h0 n0 s) (s₁.setTop (entryFrame m #[(.int p1), (.int p2)] 2))
  refine Goes.step (S' := s₁.setTop (mkF m 0 #[.val (.int p1), .val (.int p2)] [])) (fun t k => castTop (ef_1 m p1 p2) k) ?_
  refine Goes.step (S' := s₁.setTop (mkF m 1 #[.val (.int p1), .val (.int p2)] [(.int p1)])) (fun t k => XS.iloadN X0.here hx rfl (hb hby d1_0) rfl k) ?_
  refine Goes.step (S' := s₁.setTop (mkF m 2 #[.val (.int p1), .val (.int p2)] [(.int p2), (.int p1)])) (fun t k => XS.iloadN X0.here hx rfl (hb hby d1_1) rfl k) ?_
  by_cases c1 : p1 < p2
  · refine Goes.step (S' := s₁.setTop (mkF m 9 #[.val (.int p1), .val (.int p2)] [])) (fun t k => XS.icmpYes X0.here hx rfl (pc0 := 2) (pc' := 9) rfl (hb hby d1_2) rfl (tlt c1).1 (by decide) (by decide) k) ?_
    refine Goes.step (S' := s₁.setTop (mkF m 10 #[.val (.int p1), .val (.int p2)] [(.int p2)])) (fun t k => XS.iloadN X0.here hx rfl (hb hby d1_9) rfl k) ?_
    obtain ⟨fs, hr, hrun, hended, hW, hsame⟩ := X0.leave (v := some (.int p2)) (fun h => by rw [Bd.returns] at h; cases h)
    exact ⟨_, _, retI X0 hx Bd.returns (hb hby d1_10) hr, hrun, hended, _, _, rfl, ⟨by simp only [own_maxI, if_pos c1], N0, e0⟩, ⟨_, rfl⟩, hW, hsame.mono (by decide) (by decide)⟩
  · refine Goes.step (S' := s₁.setTop (mkF m 5 #[.val (.int p1), .val (.int p2)] [])) (fun t k => XS.icmpNo X0.here hx rfl (hb hby d1_2) rfl (flt c1).1 k) ?_
    refine Goes.step (S' := s₁.setTop (mkF m 6 #[.val (.int p1), .val (.int p2)] [(.int p1)])) (fun t k => XS.iloadN X0.here hx rfl (hb hby d1_5) rfl k) ?_
    refine Goes.step (S' := s₁.setTop (mkF m 10 #[.val (.int p1), .val (.int p2)] [(.int p1)])) (fun t k => XS.goto X0.here hx rfl (pc0 := 6) (pc' := 10) rfl (hb hby d1_6) (by decide) (by decide) k) ?_
    obtain ⟨fs, hr, hrun, hended, hW, hsame⟩ := X0.leave (v := some (.int p1)) (fun h => by rw [Bd.returns] at h; cases h)
    exact ⟨_, _, retI X0 hx Bd.returns (hb hby d1_10) hr, hrun, hended, _, _, rfl, ⟨by simp only [own_maxI, if_neg c1], N0, e0⟩, ⟨_, rfl⟩, hW, hsame.mono (by decide) (by decide)⟩
theorem d2_0 : decode jdk_29_method_70_code 0 = .ok (.lload_n 0, 1) := by decide +kernel
theorem d2_1 : decode jdk_29_method_70_code 1 = .ok (.lload_n 2, 1) := by decide +kernel
theorem d2_2 : decode jdk_29_method_70_code 2 = .ok (.lcmp, 1) := by decide +kernel
theorem d2_3 : decode jdk_29_method_70_code 3 = .ok (.ifCond .gt 7, 3) := by decide +kernel
theorem d2_6 : decode jdk_29_method_70_code 6 = .ok (.lload_n 0, 1) := by decide +kernel
theorem d2_7 : decode jdk_29_method_70_code 7 = .ok (.goto 4, 3) := by decide +kernel
theorem d2_10 : decode jdk_29_method_70_code 10 = .ok (.lload_n 2, 1) := by decide +kernel
theorem d2_11 : decode jdk_29_method_70_code 11 = .ok (.lreturn, 1) := by decide +kernel
theorem pd_2 : parseMethodDescriptor "(JJ)J" = some ⟨[.long, .long], some .long⟩ := by decide +kernel
theorem ef_2 (m : MethodId) (y0 : Int64) (y1 : Int64) : entryFrame m #[(.long y0), (.long y1)] 4 = mkF m 0 #[.val (.long y0), .second, .val (.long y1), .second] [] := by first | (simp [entryFrame, mkF, argsToLocals, Value.category]; done) | rfl
def Q2 (Z : State) (q1 : Int64) (q2 : Int64) (h0 : Heap) (n0 : Nat) (v : Option Value) (h : Heap) (L : List Loc) : Prop := v = some (.long (own_min q1 q2)) ∧ Fr n0 L ∧ h = h0
def R2 (Z : State) (q1 : Int64) (q2 : Int64) (h0 : Heap) (n0 : Nat) (U : State) (U' : State) (o : Outcome) : Prop := ∃ v L, o = .returned v ∧ Q2 Z q1 q2 h0 n0 v U'.heap L ∧ FrameEnd U o U' L ({ frames := 0, cells := 0, slots := 0, locals := 0 } : Room).cells ({ frames := 0, cells := 0, slots := 0, locals := 0 } : Room).slots
set_option maxRecDepth 65536 in
set_option maxHeartbeats 40000000 in
theorem rm2 (l : Launch) (Z : State) (a0 : Array Value) (hw : ∀ d ∈ tables_1, d.before a0 Z = true) (ws : List Jvm.Cond) (q1 : Int64) (q2 : Int64) (h0 : Heap) (n0 : Nat) (Z0 : n0 ≤ h0.size)  :
    MetFree l (⟨"java/lang/Math", "min", "(JJ)J"⟩ : MethodName) (head1 (Jvm.Cond.code (⟨"java/lang/Math", "min", "(JJ)J"⟩ : MethodName) jdk_29_method_70_code 4 (some .long) :: ws) ({ frames := 0, cells := 0, slots := 0, locals := 0 } : Room)) (fun a U => a = #[(.long q1), (.long q2)] ∧ Z.Warmed39 U.vm ∧ U.heap = h0) (fun _ _ _ _ _ => True) (fun _ U o U' => ∃ v L, o = .returned v ∧ Q2 Z q1 q2 h0 n0 v U'.heap L ∧ FrameEnd U o U' L ({ frames := 0, cells := 0, slots := 0, locals := 0 } : Room).cells ({ frames := 0, cells := 0, slots := 0, locals := 0 } : Room).slots) := by
  refine MetFree.of_bodySF (Jvm.Free.JP.mathPlain rfl (by decide +kernel)) hisR ?_
  intro p e s m args below meth c s₁ Bd hml0 hP hK
  obtain ⟨rfl, hZ, hh⟩ := hP
  have hx := Bd.exec
  have hby := Bd.bytes
  have hml : c.maxLocals = 4 := hml0
  have hown : s.vm.findClass "java/lang/Math" = some m.cls := findClass_of_methodNamed Bd.named
  have hnm := (name_of_methodNamed Bd.named Bd.method).1
  have X0 : Stand p l e ({ frames := 0, cells := 0, slots := 0, locals := 0 } : Room) s m #[(.long q1), (.long q2)] below meth c s₁ [] 0 0 := Stand.of_body Bd
  have e0 : s₁.heap = h0 := by rw [← hh, Bd.state]; rfl
  have N0 := Fr.nil n0
  show Goes p e below (R2 Z q1 q2 h0 n0 s) (s₁.setTop (entryFrame m #[(.long q1), (.long q2)] 4))
  refine Goes.step (S' := s₁.setTop (mkF m 0 #[.val (.long q1), .second, .val (.long q2), .second] [])) (fun t k => castTop (ef_2 m q1 q2) k) ?_
  by_cases c1 : q2 < q1
  · refine Goes.step (S' := s₁.setTop (mkF m 1 #[.val (.long q1), .second, .val (.long q2), .second] [(.long q1)])) (fun t k => XS.lloadN X0.here hx rfl (hb hby d2_0) rfl k) ?_
    refine Goes.step (S' := s₁.setTop (mkF m 2 #[.val (.long q1), .second, .val (.long q2), .second] [(.long q2), (.long q1)])) (fun t k => XS.lloadN X0.here hx rfl (hb hby d2_1) rfl k) ?_
    refine Goes.step (S' := s₁.setTop (mkF m 3 #[.val (.long q1), .second, .val (.long q2), .second] [(.int (lcmpW q1 q2))])) (fun t k => XS.lcmp X0.here hx rfl (hb hby d2_2) rfl k) ?_
    refine Goes.step (S' := s₁.setTop (mkF m 10 #[.val (.long q1), .second, .val (.long q2), .second] [])) (fun t k => XS.ifYes X0.here hx rfl (pc0 := 3) (pc' := 10) rfl (hb hby d2_3) rfl ((if0 _ _).trans (tlt (own_lc_gt c1)).2.2.1) (by decide) (by decide) k) ?_
    refine Goes.step (S' := s₁.setTop (mkF m 11 #[.val (.long q1), .second, .val (.long q2), .second] [(.long q2)])) (fun t k => XS.lloadN X0.here hx rfl (hb hby d2_10) rfl k) ?_
    obtain ⟨fs, hr, hrun, hended, hW, hsame⟩ := X0.leave (v := some (.long q2)) (fun h => by rw [Bd.returns] at h; cases h)
    exact ⟨_, _, X0.lreturnOut hx Bd.returns (hb hby d2_11) hr, hrun, hended, _, _, rfl, ⟨by simp only [own_min, if_pos c1], N0, e0⟩, ⟨_, rfl⟩, hW, hsame.mono (by decide) (by decide)⟩
  · refine Goes.step (S' := s₁.setTop (mkF m 1 #[.val (.long q1), .second, .val (.long q2), .second] [(.long q1)])) (fun t k => XS.lloadN X0.here hx rfl (hb hby d2_0) rfl k) ?_
    refine Goes.step (S' := s₁.setTop (mkF m 2 #[.val (.long q1), .second, .val (.long q2), .second] [(.long q2), (.long q1)])) (fun t k => XS.lloadN X0.here hx rfl (hb hby d2_1) rfl k) ?_
    refine Goes.step (S' := s₁.setTop (mkF m 3 #[.val (.long q1), .second, .val (.long q2), .second] [(.int (lcmpW q1 q2))])) (fun t k => XS.lcmp X0.here hx rfl (hb hby d2_2) rfl k) ?_
    refine Goes.step (S' := s₁.setTop (mkF m 6 #[.val (.long q1), .second, .val (.long q2), .second] [])) (fun t k => XS.ifNo X0.here hx rfl (hb hby d2_3) rfl ((if0 _ _).trans (flt (own_lc_ngt c1)).2.2.1) k) ?_
    refine Goes.step (S' := s₁.setTop (mkF m 7 #[.val (.long q1), .second, .val (.long q2), .second] [(.long q1)])) (fun t k => XS.lloadN X0.here hx rfl (hb hby d2_6) rfl k) ?_
    refine Goes.step (S' := s₁.setTop (mkF m 11 #[.val (.long q1), .second, .val (.long q2), .second] [(.long q1)])) (fun t k => XS.goto X0.here hx rfl (pc0 := 7) (pc' := 11) rfl (hb hby d2_7) (by decide) (by decide) k) ?_
    obtain ⟨fs, hr, hrun, hended, hW, hsame⟩ := X0.leave (v := some (.long q1)) (fun h => by rw [Bd.returns] at h; cases h)
    exact ⟨_, _, X0.lreturnOut hx Bd.returns (hb hby d2_11) hr, hrun, hended, _, _, rfl, ⟨by simp only [own_min, if_neg c1], N0, e0⟩, ⟨_, rfl⟩, hW, hsame.mono (by decide) (by decide)⟩
theorem d3_0 : decode jdk_30_method_1_code 0 = .ok (.aload_n 0, 1) := by decide +kernel
theorem d3_1 : decode jdk_30_method_1_code 1 = .ok (.invokespecial 1, 3) := by decide +kernel
theorem d3_4 : decode jdk_30_method_1_code 4 = .ok (.return_, 1) := by decide +kernel
theorem pn_3 : plainName "java/lang/Record" = true := by first | (simp [plainName, overriddenIn]; done) | decide +kernel
theorem pd_3 : parseMethodDescriptor "()V" = some ⟨[], none⟩ := by decide +kernel
theorem ef_3 (m : MethodId) (y0 : Addr) : entryFrame m #[(.ref y0)] 1 = mkF m 0 #[.val (.ref y0)] [] := by first | (simp [entryFrame, mkF, argsToLocals, Value.category]; done) | rfl
def Q3 (Z : State) (a1 : Addr) (h0 : Heap) (n0 : Nat) (v : Option Value) (h : Heap) (L : List Loc) : Prop := v = none ∧ Fr n0 L ∧ h = h0
def R3 (Z : State) (a1 : Addr) (h0 : Heap) (n0 : Nat) (U : State) (U' : State) (o : Outcome) : Prop := ∃ v L, o = .returned v ∧ Q3 Z a1 h0 n0 v U'.heap L ∧ FrameEnd U o U' L ({ frames := 1, cells := 0, slots := 0, locals := 12 } : Room).cells ({ frames := 1, cells := 0, slots := 0, locals := 12 } : Room).slots
set_option maxRecDepth 65536 in
set_option maxHeartbeats 40000000 in
theorem rm3 (l : Launch) (Z : State) (a0 : Array Value) (hw : ∀ d ∈ tables_1, d.before a0 Z = true) (ws : List Jvm.Cond) (a1 : Addr) (h0 : Heap) (n0 : Nat) (Z0 : n0 ≤ h0.size)  :
    MetFree l (⟨"java/lang/Record", "<init>", "()V"⟩ : MethodName) (head1 (Jvm.Cond.code (⟨"java/lang/Record", "<init>", "()V"⟩ : MethodName) jdk_30_method_1_code 1 none :: ws) ({ frames := 1, cells := 0, slots := 0, locals := 12 } : Room)) (fun a U => a = #[(.ref a1)] ∧ Z.Warmed39 U.vm ∧ U.heap = h0) (fun _ _ _ _ _ => True) (fun _ U o U' => ∃ v L, o = .returned v ∧ Q3 Z a1 h0 n0 v U'.heap L ∧ FrameEnd U o U' L ({ frames := 1, cells := 0, slots := 0, locals := 12 } : Room).cells ({ frames := 1, cells := 0, slots := 0, locals := 12 } : Room).slots) := by
  refine MetFree.of_bodySF (plainFor_of_name pn_3) hisR ?_
  intro p e s m args below meth c s₁ Bd hml0 hP hK
  obtain ⟨rfl, hZ, hh⟩ := hP
  have hx := Bd.exec
  have hby := Bd.bytes
  have hml : c.maxLocals = 1 := hml0
  have hown : s.vm.findClass "java/lang/Record" = some m.cls := findClass_of_methodNamed Bd.named
  have hnm := (name_of_methodNamed Bd.named Bd.method).1
  have X0 : Stand p l e ({ frames := 1, cells := 0, slots := 0, locals := 12 } : Room) s m #[(.ref a1)] below meth c s₁ [] 0 0 := Stand.of_body Bd
  have e0 : s₁.heap = h0 := by rw [← hh, Bd.state]; rfl
  have N0 := Fr.nil n0
  show Goes p e below (R3 Z a1 h0 n0 s) (s₁.setTop (entryFrame m #[(.ref a1)] 1))
  refine Goes.step (S' := s₁.setTop (mkF m 0 #[.val (.ref a1)] [])) (fun t k => castTop (ef_3 m a1) k) ?_
  refine Goes.step (S' := s₁.setTop (mkF m 1 #[.val (.ref a1)] [(.ref a1)])) (fun t k => XS.aloadN X0.here hx rfl (hb hby d3_0) rfl rfl k) ?_
  obtain ⟨T1, X1, e1, st1⟩ := initO X0 hx hZ hown (hw _ (List.mem_of_getElem? (i := 16) rfl)) (hw _ (List.mem_of_getElem? (i := 17) rfl)) (hw _ (List.mem_of_getElem? (i := 18) rfl)) e0 (g := (mkF m 1 #[.val (.ref a1)] [(.ref a1)])) rfl (by rw [hml]; rfl) rfl (hb hby d3_1) (by decide) (W := 0) (by show 2 * 0 + _ ≤ _; exact Nat.le_of_eq rfl) (by decide)
  refine Goes.step (S' := T1.setTop (mkF m 4 #[.val (.ref a1)] [])) (fun t k => st1 t k) ?_
  obtain ⟨fs, hr, hrun, hended, hW, hsame⟩ := X1.leave (v := none) (fun _ => rfl)
  exact ⟨_, _, X1.returnOut hx Bd.returns (hb hby d3_4) hr, hrun, hended, _, _, rfl, ⟨rfl, N0, e1⟩, ⟨_, rfl⟩, hW, hsame.mono (by decide) (by decide)⟩
theorem d4_0 : decode prog_80_method_1_code 0 = .ok (.aload_n 0, 1) := by decide +kernel
theorem d4_1 : decode prog_80_method_1_code 1 = .ok (.invokespecial 1, 3) := by decide +kernel
theorem d4_4 : decode prog_80_method_1_code 4 = .ok (.iload_n 1, 1) := by decide +kernel
theorem d4_5 : decode prog_80_method_1_code 5 = .ok (.iconst 1, 1) := by decide +kernel
theorem d4_6 : decode prog_80_method_1_code 6 = .ok (.if_icmp .lt 13, 3) := by decide +kernel
theorem d4_9 : decode prog_80_method_1_code 9 = .ok (.iload_n 1, 1) := by decide +kernel
theorem d4_10 : decode prog_80_method_1_code 10 = .ok (.iload_n 2, 1) := by decide +kernel
theorem d4_11 : decode prog_80_method_1_code 11 = .ok (.if_icmp .gt 8, 3) := by decide +kernel
theorem d4_14 : decode prog_80_method_1_code 14 = .ok (.iload_n 3, 1) := by decide +kernel
theorem d4_15 : decode prog_80_method_1_code 15 = .ok (.iconst 1, 1) := by decide +kernel
theorem d4_16 : decode prog_80_method_1_code 16 = .ok (.if_icmp .ge 19, 3) := by decide +kernel
theorem d4_35 : decode prog_80_method_1_code 35 = .ok (.aload_n 0, 1) := by decide +kernel
theorem d4_36 : decode prog_80_method_1_code 36 = .ok (.iload_n 1, 1) := by decide +kernel
theorem d4_37 : decode prog_80_method_1_code 37 = .ok (.putfield 16, 3) := by decide +kernel
theorem d4_40 : decode prog_80_method_1_code 40 = .ok (.aload_n 0, 1) := by decide +kernel
theorem d4_41 : decode prog_80_method_1_code 41 = .ok (.iload_n 2, 1) := by decide +kernel
theorem d4_42 : decode prog_80_method_1_code 42 = .ok (.putfield 22, 3) := by decide +kernel
theorem d4_45 : decode prog_80_method_1_code 45 = .ok (.aload_n 0, 1) := by decide +kernel
theorem d4_46 : decode prog_80_method_1_code 46 = .ok (.iload_n 3, 1) := by decide +kernel
theorem d4_47 : decode prog_80_method_1_code 47 = .ok (.putfield 25, 3) := by decide +kernel
theorem d4_50 : decode prog_80_method_1_code 50 = .ok (.return_, 1) := by decide +kernel
theorem pn_4 : plainName "com/example/sidereal/sidereal/engine/config/JobLimits" = true := by first | (simp [plainName, overriddenIn]; done) | decide +kernel
theorem pd_4 : parseMethodDescriptor "(III)V" = some ⟨[.int, .int, .int], none⟩ := by decide +kernel
theorem ef_4 (m : MethodId) (y0 : Addr) (y1 : Int32) (y2 : Int32) (y3 : Int32) : entryFrame m #[(.ref y0), (.int y1), (.int y2), (.int y3)] 4 = mkF m 0 #[.val (.ref y0), .val (.int y1), .val (.int y2), .val (.int y3)] [] := by first | (simp [entryFrame, mkF, argsToLocals, Value.category]; done) | rfl
def Q4 (Z : State) (a1 : Addr) (p2 : Int32) (p3 : Int32) (p4 : Int32) (u1 : Value) (u2 : Value) (u3 : Value) (h0 : Heap) (n0 : Nat) (v : Option Value) (h : Heap) (L : List Loc) : Prop := v = none ∧ Fr n0 L ∧ Keep h0 h [a1] ∧ Exa Z h a1 "com/example/sidereal/sidereal/engine/config/JobLimits" ∧ (Fld Z h a1 "com/example/sidereal/sidereal/engine/config/JobLimits" "maxDuration" "I" (.int p3))
def R4 (Z : State) (a1 : Addr) (p2 : Int32) (p3 : Int32) (p4 : Int32) (u1 : Value) (u2 : Value) (u3 : Value) (h0 : Heap) (n0 : Nat) (U : State) (U' : State) (o : Outcome) : Prop := ∃ v L, o = .returned v ∧ Q4 Z a1 p2 p3 p4 u1 u2 u3 h0 n0 v U'.heap L ∧ FrameEnd U o U' L ({ frames := 2, cells := 0, slots := 0, locals := 24 } : Room).cells ({ frames := 2, cells := 0, slots := 0, locals := 24 } : Room).slots
set_option maxRecDepth 65536 in
set_option maxHeartbeats 40000000 in
theorem rm4 (l : Launch) (Z : State) (a0 : Array Value) (hw : ∀ d ∈ tables_1, d.before a0 Z = true) (ws : List Jvm.Cond) (a1 : Addr) (p2 : Int32) (p3 : Int32) (p4 : Int32) (u1 : Value) (u2 : Value) (u3 : Value) (h0 : Heap) (n0 : Nat) (Z0 : n0 ≤ h0.size) (E1 : Exa Z h0 a1 "com/example/sidereal/sidereal/engine/config/JobLimits") (F1 : (Fld Z h0 a1 "com/example/sidereal/sidereal/engine/config/JobLimits" "defaultDuration" "I" u1)) (F2 : (Fld Z h0 a1 "com/example/sidereal/sidereal/engine/config/JobLimits" "maxDuration" "I" u2)) (F3 : (Fld Z h0 a1 "com/example/sidereal/sidereal/engine/config/JobLimits" "retention" "I" u3)) (ga : n0 ≤ a1) (c1 : ¬ p2 < (1 : Int32)) (c2 : ¬ p3 < p2) (c3 : ¬ p4 < (1 : Int32)) :
    MetFree l (⟨"com/example/sidereal/sidereal/engine/config/JobLimits", "<init>", "(III)V"⟩ : MethodName) (head1 (Jvm.Cond.code (⟨"com/example/sidereal/sidereal/engine/config/JobLimits", "<init>", "(III)V"⟩ : MethodName) prog_80_method_1_code 4 none :: ws) ({ frames := 2, cells := 0, slots := 0, locals := 24 } : Room)) (fun a U => a = #[(.ref a1), (.int p2), (.int p3), (.int p4)] ∧ Z.Warmed39 U.vm ∧ U.heap = h0) (fun _ _ _ _ _ => True) (fun _ U o U' => ∃ v L, o = .returned v ∧ Q4 Z a1 p2 p3 p4 u1 u2 u3 h0 n0 v U'.heap L ∧ FrameEnd U o U' L ({ frames := 2, cells := 0, slots := 0, locals := 24 } : Room).cells ({ frames := 2, cells := 0, slots := 0, locals := 24 } : Room).slots) := by
  refine MetFree.of_bodySF (plainFor_of_name pn_4) hisR ?_
  intro p e s m args below meth c s₁ Bd hml0 hP hK
  obtain ⟨rfl, hZ, hh⟩ := hP
  have hx := Bd.exec
  have hby := Bd.bytes
  have hml : c.maxLocals = 4 := hml0
  have hown : s.vm.findClass "com/example/sidereal/sidereal/engine/config/JobLimits" = some m.cls := findClass_of_methodNamed Bd.named
  have hnm := (name_of_methodNamed Bd.named Bd.method).1
  have X0 : Stand p l e ({ frames := 2, cells := 0, slots := 0, locals := 24 } : Room) s m #[(.ref a1), (.int p2), (.int p3), (.int p4)] below meth c s₁ [] 0 0 := Stand.of_body Bd
  have e0 : s₁.heap = h0 := by rw [← hh, Bd.state]; rfl
  have N0 := Fr.nil n0
  show Goes p e below (R4 Z a1 p2 p3 p4 u1 u2 u3 h0 n0 s) (s₁.setTop (entryFrame m #[(.ref a1), (.int p2), (.int p3), (.int p4)] 4))
  refine Goes.step (S' := s₁.setTop (mkF m 0 #[.val (.ref a1), .val (.int p2), .val (.int p3), .val (.int p4)] [])) (fun t k => castTop (ef_4 m a1 p2 p3 p4) k) ?_
  refine Goes.step (S' := s₁.setTop (mkF m 1 #[.val (.ref a1), .val (.int p2), .val (.int p3), .val (.int p4)] [(.ref a1)])) (fun t k => XS.aloadN X0.here hx rfl (hb hby d4_0) rfl rfl k) ?_
  obtain ⟨_, _, ⟨T2, L2, k2, n2⟩, -, X2, ⟨Lc2, hQ2, l2, y2, z2⟩, st2⟩ := X0.specialBack hx (y := (⟨"java/lang/Record", "<init>", "()V"⟩ : MethodName)) rfl hown (mvT hZ (hw _ (List.mem_of_getElem? (i := 11) rfl))) (mvT hZ (hw _ (List.mem_of_getElem? (i := 12) rfl))) (mvT hZ (hw _ (List.mem_of_getElem? (i := 15) rfl))) (by decide) (backOf (W := 0) (rm3 l Z a0 hw [] a1 h0 n0 Z0) hZ (hw _ (List.mem_of_getElem? (i := 15) rfl)) (hw _ (List.mem_of_getElem? (i := 14) rfl)) (by decide) (by decide)) (g := (mkF m 1 #[.val (.ref a1), .val (.int p2), .val (.int p3), .val (.int p4)] [(.ref a1)])) rfl (by rw [hml]; rfl) (Steps.refl _) (a := a1) (argsL := []) (rest := []) (lenOf pd_3 rfl) rfl (by show 2 * 0 + _ ≤ _; exact Nat.le_of_eq rfl) (hb hby d4_1) (fun _ _ => ⟨rfl, e0, (by decide : 0 + 0 ≤ _), (by decide : 0 + 0 ≤ _)⟩)
  dsimp only [Pt.U, Pt.locs, Pt.cells, Pt.slots] at X2 l2 y2 z2 st2 hQ2
  subst l2 y2 z2
  obtain ⟨rfl, N2q, e2⟩ := hQ2
  have N2 := Fr.app N0 N2q
  refine Goes.step (S' := T2.setTop (mkF m 4 #[.val (.ref a1), .val (.int p2), .val (.int p3), .val (.int p4)] [])) (fun t k => st2.trans k) ?_
  refine Goes.step (S' := T2.setTop (mkF m 5 #[.val (.ref a1), .val (.int p2), .val (.int p3), .val (.int p4)] [(.int p2)])) (fun t k => XS.iloadN X2.here hx rfl (hb hby d4_4) rfl k) ?_
  refine Goes.step (S' := T2.setTop (mkF m 6 #[.val (.ref a1), .val (.int p2), .val (.int p3), .val (.int p4)] [(.int (1 : Int32)), (.int p2)])) (fun t k => XS.iconst X2.here hx rfl (hb hby d4_5) k) ?_
  refine Goes.step (S' := T2.setTop (mkF m 9 #[.val (.ref a1), .val (.int p2), .val (.int p3), .val (.int p4)] [])) (fun t k => XS.icmpNo X2.here hx rfl (hb hby d4_6) rfl (flt c1).1 k) ?_
  refine Goes.step (S' := T2.setTop (mkF m 10 #[.val (.ref a1), .val (.int p2), .val (.int p3), .val (.int p4)] [(.int p2)])) (fun t k => XS.iloadN X2.here hx rfl (hb hby d4_9) rfl k) ?_
  refine Goes.step (S' := T2.setTop (mkF m 11 #[.val (.ref a1), .val (.int p2), .val (.int p3), .val (.int p4)] [(.int p3), (.int p2)])) (fun t k => XS.iloadN X2.here hx rfl (hb hby d4_10) rfl k) ?_
  refine Goes.step (S' := T2.setTop (mkF m 14 #[.val (.ref a1), .val (.int p2), .val (.int p3), .val (.int p4)] [])) (fun t k => XS.icmpNo X2.here hx rfl (hb hby d4_11) rfl (flt c2).2.2.1 k) ?_
  refine Goes.step (S' := T2.setTop (mkF m 15 #[.val (.ref a1), .val (.int p2), .val (.int p3), .val (.int p4)] [(.int p4)])) (fun t k => XS.iloadN X2.here hx rfl (hb hby d4_14) rfl k) ?_
  refine Goes.step (S' := T2.setTop (mkF m 16 #[.val (.ref a1), .val (.int p2), .val (.int p3), .val (.int p4)] [(.int (1 : Int32)), (.int p4)])) (fun t k => XS.iconst X2.here hx rfl (hb hby d4_15) k) ?_
  refine Goes.step (S' := T2.setTop (mkF m 35 #[.val (.ref a1), .val (.int p2), .val (.int p3), .val (.int p4)] [])) (fun t k => XS.icmpYes X2.here hx rfl (pc0 := 16) (pc' := 35) rfl (hb hby d4_16) rfl (flt c3).2.1 (by decide) (by decide) k) ?_
  refine Goes.step (S' := T2.setTop (mkF m 36 #[.val (.ref a1), .val (.int p2), .val (.int p3), .val (.int p4)] [(.ref a1)])) (fun t k => XS.aloadN X2.here hx rfl (hb hby d4_35) rfl rfl k) ?_
  refine Goes.step (S' := T2.setTop (mkF m 37 #[.val (.ref a1), .val (.int p2), .val (.int p3), .val (.int p4)] [(.int p2), (.ref a1)])) (fun t k => XS.iloadN X2.here hx rfl (hb hby d4_36) rfl k) ?_
  obtain ⟨T3, h3, X3, e3, W3, st3⟩ := putF X2 hx hZ hown (host := "") (Or.inl (hw _ (List.mem_of_getElem? (i := 19) rfl))) Via.refl e2 F1 E1 (Or.inr ⟨(hw _ (List.mem_of_getElem? (i := 20) rfl)), rfl, hnm⟩) (hw _ (List.mem_of_getElem? (i := 6) rfl)) (ty := .int) (by decide) rfl rfl (g := (mkF m 37 #[.val (.ref a1), .val (.int p2), .val (.int p3), .val (.int p4)] [(.int p2), (.ref a1)])) rfl rfl (hb hby d4_37)
  have N3 := Fr.snoc X3 N2 ga
  refine Goes.step (S' := T3.setTop (mkF m 40 #[.val (.ref a1), .val (.int p2), .val (.int p3), .val (.int p4)] [])) (fun t k => st3 t k) ?_
  refine Goes.step (S' := T3.setTop (mkF m 41 #[.val (.ref a1), .val (.int p2), .val (.int p3), .val (.int p4)] [(.ref a1)])) (fun t k => XS.aloadN X3.here hx rfl (hb hby d4_40) rfl rfl k) ?_
  refine Goes.step (S' := T3.setTop (mkF m 42 #[.val (.ref a1), .val (.int p2), .val (.int p3), .val (.int p4)] [(.int p3), (.ref a1)])) (fun t k => XS.iloadN X3.here hx rfl (hb hby d4_41) rfl k) ?_
  obtain ⟨T4, h4, X4, e4, W4, st4⟩ := putF X3 hx hZ hown (host := "") (Or.inl (hw _ (List.mem_of_getElem? (i := 21) rfl))) Via.refl e3 (F2.other W3 (Or.inr (slot_ne (Or.inr (hw _ (List.mem_of_getElem? (i := 22) rfl))) (Or.inr (hw _ (List.mem_of_getElem? (i := 20) rfl))) (by decide) (t := .int) (t' := .int) (by decide) (by decide)))) (E1.wr W3) (Or.inr ⟨(hw _ (List.mem_of_getElem? (i := 22) rfl)), rfl, hnm⟩) (hw _ (List.mem_of_getElem? (i := 6) rfl)) (ty := .int) (by decide) rfl rfl (g := (mkF m 42 #[.val (.ref a1), .val (.int p2), .val (.int p3), .val (.int p4)] [(.int p3), (.ref a1)])) rfl rfl (hb hby d4_42)
  have N4 := Fr.snoc X4 N3 ga
  refine Goes.step (S' := T4.setTop (mkF m 45 #[.val (.ref a1), .val (.int p2), .val (.int p3), .val (.int p4)] [])) (fun t k => st4 t k) ?_
  refine Goes.step (S' := T4.setTop (mkF m 46 #[.val (.ref a1), .val (.int p2), .val (.int p3), .val (.int p4)] [(.ref a1)])) (fun t k => XS.aloadN X4.here hx rfl (hb hby d4_45) rfl rfl k) ?_
  refine Goes.step (S' := T4.setTop (mkF m 47 #[.val (.ref a1), .val (.int p2), .val (.int p3), .val (.int p4)] [(.int p4), (.ref a1)])) (fun t k => XS.iloadN X4.here hx rfl (hb hby d4_46) rfl k) ?_
  obtain ⟨T5, h5, X5, e5, W5, st5⟩ := putF X4 hx hZ hown (host := "") (Or.inl (hw _ (List.mem_of_getElem? (i := 23) rfl))) Via.refl e4 ((F3.other W3 (Or.inr (slot_ne (Or.inr (hw _ (List.mem_of_getElem? (i := 24) rfl))) (Or.inr (hw _ (List.mem_of_getElem? (i := 20) rfl))) (by decide) (t := .int) (t' := .int) (by decide) (by decide)))).other W4 (Or.inr (slot_ne (Or.inr (hw _ (List.mem_of_getElem? (i := 24) rfl))) (Or.inr (hw _ (List.mem_of_getElem? (i := 22) rfl))) (by decide) (t := .int) (t' := .int) (by decide) (by decide)))) ((E1.wr W3).wr W4) (Or.inr ⟨(hw _ (List.mem_of_getElem? (i := 24) rfl)), rfl, hnm⟩) (hw _ (List.mem_of_getElem? (i := 6) rfl)) (ty := .int) (by decide) rfl rfl (g := (mkF m 47 #[.val (.ref a1), .val (.int p2), .val (.int p3), .val (.int p4)] [(.int p4), (.ref a1)])) rfl rfl (hb hby d4_47)
  have N5 := Fr.snoc X5 N4 ga
  refine Goes.step (S' := T5.setTop (mkF m 50 #[.val (.ref a1), .val (.int p2), .val (.int p3), .val (.int p4)] [])) (fun t k => st5 t k) ?_
  have K3 : Keep h0 h5 [a1] := (((Keep.refl _ _).wr W3 (Or.inl (List.mem_of_getElem? (i := 0) rfl))).wr W4 (Or.inl (List.mem_of_getElem? (i := 0) rfl))).wr W5 (Or.inl (List.mem_of_getElem? (i := 0) rfl))
  have G1 := ((F2.other W3 (Or.inr (slot_ne (Or.inr (hw _ (List.mem_of_getElem? (i := 22) rfl))) (Or.inr (hw _ (List.mem_of_getElem? (i := 20) rfl))) (by decide) (t := .int) (t' := .int) (by decide) (by decide)))).same W4).other W5 (Or.inr (slot_ne (Or.inr (hw _ (List.mem_of_getElem? (i := 22) rfl))) (Or.inr (hw _ (List.mem_of_getElem? (i := 24) rfl))) (by decide) (t := .int) (t' := .int) (by decide) (by decide)))
  have G3 := ((E1.wr W3).wr W4).wr W5
  subst e5
  obtain ⟨fs, hr, hrun, hended, hW, hsame⟩ := X5.leave (v := none) (fun _ => rfl)
  exact ⟨_, _, X5.returnOut hx Bd.returns (hb hby d4_50) hr, hrun, hended, _, _, rfl, ⟨rfl, N5, K3, G3, G1⟩, ⟨_, rfl⟩, hW, hsame.mono (by decide) (by decide)⟩
theorem d5_0 : decode prog_80_method_2_code 0 = .ok (.lload_n 1, 1) := by decide +kernel
theorem d5_1 : decode prog_80_method_2_code 1 = .ok (.lconst 0, 1) := by decide +kernel
theorem d5_2 : decode prog_80_method_2_code 2 = .ok (.lcmp, 1) := by decide +kernel
theorem d5_3 : decode prog_80_method_2_code 3 = .ok (.ifCond .eq 13, 3) := by decide +kernel
theorem d5_6 : decode prog_80_method_2_code 6 = .ok (.lload_n 1, 1) := by decide +kernel
theorem d5_7 : decode prog_80_method_2_code 7 = .ok (.aload_n 0, 1) := by decide +kernel
theorem d5_8 : decode prog_80_method_2_code 8 = .ok (.getfield 22, 3) := by decide +kernel
theorem d5_11 : decode prog_80_method_2_code 11 = .ok (.i2l, 1) := by decide +kernel
theorem d5_12 : decode prog_80_method_2_code 12 = .ok (.lcmp, 1) := by decide +kernel
theorem d5_13 : decode prog_80_method_2_code 13 = .ok (.ifCond .le 10, 3) := by decide +kernel
theorem d5_16 : decode prog_80_method_2_code 16 = .ok (.aload_n 0, 1) := by decide +kernel
theorem d5_17 : decode prog_80_method_2_code 17 = .ok (.getfield 22, 3) := by decide +kernel
theorem d5_20 : decode prog_80_method_2_code 20 = .ok (.goto 5, 3) := by decide +kernel
theorem d5_23 : decode prog_80_method_2_code 23 = .ok (.lload_n 1, 1) := by decide +kernel
theorem d5_24 : decode prog_80_method_2_code 24 = .ok (.l2i, 1) := by decide +kernel
theorem d5_25 : decode prog_80_method_2_code 25 = .ok (.ireturn, 1) := by decide +kernel
theorem pn_5 : plainName "com/example/sidereal/sidereal/engine/config/JobLimits" = true := by first | (simp [plainName, overriddenIn]; done) | decide +kernel
theorem pd_5 : parseMethodDescriptor "(J)I" = some ⟨[.long], some .int⟩ := by decide +kernel
theorem ef_5 (m : MethodId) (y0 : Addr) (y1 : Int64) : entryFrame m #[(.ref y0), (.long y1)] 3 = mkF m 0 #[.val (.ref y0), .val (.long y1), .second] [] := by first | (simp [entryFrame, mkF, argsToLocals, Value.category]; done) | rfl
def Q5 (Z : State) (a1 : Addr) (q2 : Int64) (w3 : Int32) (h0 : Heap) (n0 : Nat) (v : Option Value) (h : Heap) (L : List Loc) : Prop := v = some (.int (own_dur q2 w3)) ∧ Fr n0 L ∧ h = h0
def R5 (Z : State) (a1 : Addr) (q2 : Int64) (w3 : Int32) (h0 : Heap) (n0 : Nat) (U : State) (U' : State) (o : Outcome) : Prop := ∃ v L, o = .returned v ∧ Q5 Z a1 q2 w3 h0 n0 v U'.heap L ∧ FrameEnd U o U' L ({ frames := 0, cells := 0, slots := 0, locals := 0 } : Room).cells ({ frames := 0, cells := 0, slots := 0, locals := 0 } : Room).slots
set_option maxRecDepth 65536 in
set_option maxHeartbeats 40000000 in
theorem rm5 (l : Launch) (Z : State) (a0 : Array Value) (hw : ∀ d ∈ tables_1, d.before a0 Z = true) (ws : List Jvm.Cond) (a1 : Addr) (q2 : Int64) (w3 : Int32) (h0 : Heap) (n0 : Nat) (Z0 : n0 ≤ h0.size) (F1 : (Fld Z h0 a1 "com/example/sidereal/sidereal/engine/config/JobLimits" "maxDuration" "I" (.int w3))) :
    MetFree l (⟨"com/example/sidereal/sidereal/engine/config/JobLimits", "duration", "(J)I"⟩ : MethodName) (head1 (Jvm.Cond.code (⟨"com/example/sidereal/sidereal/engine/config/JobLimits", "duration", "(J)I"⟩ : MethodName) prog_80_method_2_code 3 (some .int) :: ws) ({ frames := 0, cells := 0, slots := 0, locals := 0 } : Room)) (fun a U => a = #[(.ref a1), (.long q2)] ∧ Z.Warmed39 U.vm ∧ U.heap = h0) (fun _ _ _ _ _ => True) (fun _ U o U' => ∃ v L, o = .returned v ∧ Q5 Z a1 q2 w3 h0 n0 v U'.heap L ∧ FrameEnd U o U' L ({ frames := 0, cells := 0, slots := 0, locals := 0 } : Room).cells ({ frames := 0, cells := 0, slots := 0, locals := 0 } : Room).slots) := by
  refine MetFree.of_bodySF (plainFor_of_name pn_5) hisR ?_
  intro p e s m args below meth c s₁ Bd hml0 hP hK
  obtain ⟨rfl, hZ, hh⟩ := hP
  have hx := Bd.exec
  have hby := Bd.bytes
  have hml : c.maxLocals = 3 := hml0
  have hown : s.vm.findClass "com/example/sidereal/sidereal/engine/config/JobLimits" = some m.cls := findClass_of_methodNamed Bd.named
  have hnm := (name_of_methodNamed Bd.named Bd.method).1
  have X0 : Stand p l e ({ frames := 0, cells := 0, slots := 0, locals := 0 } : Room) s m #[(.ref a1), (.long q2)] below meth c s₁ [] 0 0 := Stand.of_body Bd
  have e0 : s₁.heap = h0 := by rw [← hh, Bd.state]; rfl
  have N0 := Fr.nil n0
  show Goes p e below (R5 Z a1 q2 w3 h0 n0 s) (s₁.setTop (entryFrame m #[(.ref a1), (.long q2)] 3))
  refine Goes.step (S' := s₁.setTop (mkF m 0 #[.val (.ref a1), .val (.long q2), .second] [])) (fun t k => castTop (ef_5 m a1 q2) k) ?_
  by_cases c1 : q2 = (0 : Int64)
  · refine Goes.step (S' := s₁.setTop (mkF m 1 #[.val (.ref a1), .val (.long q2), .second] [(.long q2)])) (fun t k => XS.lloadN X0.here hx rfl (hb hby d5_0) rfl k) ?_
    refine Goes.step (S' := s₁.setTop (mkF m 2 #[.val (.ref a1), .val (.long q2), .second] [(.long (0 : Int64)), (.long q2)])) (fun t k => XS.lconst X0.here hx rfl (hb hby d5_1) k) ?_
    refine Goes.step (S' := s₁.setTop (mkF m 3 #[.val (.ref a1), .val (.long q2), .second] [(.int (lcmpW q2 (0 : Int64)))])) (fun t k => XS.lcmp X0.here hx rfl (hb hby d5_2) rfl k) ?_
    refine Goes.step (S' := s₁.setTop (mkF m 16 #[.val (.ref a1), .val (.long q2), .second] [])) (fun t k => XS.ifYes X0.here hx rfl (pc0 := 3) (pc' := 16) rfl (hb hby d5_3) rfl ((if0 _ _).trans (teq (own_lc0 c1)).1) (by decide) (by decide) k) ?_
    refine Goes.step (S' := s₁.setTop (mkF m 17 #[.val (.ref a1), .val (.long q2), .second] [(.ref a1)])) (fun t k => XS.aloadN X0.here hx rfl (hb hby d5_16) rfl rfl k) ?_
    obtain ⟨T6, X6, e6, st6⟩ := getF X0 hx hZ hown (host := "") (Or.inl (hw _ (List.mem_of_getElem? (i := 21) rfl))) Via.refl e0 F1 (g := (mkF m 17 #[.val (.ref a1), .val (.long q2), .second] [(.ref a1)])) rfl rfl (hb hby d5_17)
    refine Goes.step (S' := T6.setTop (mkF m 20 #[.val (.ref a1), .val (.long q2), .second] [(.int w3)])) (fun t k => st6 t k) ?_
    refine Goes.step (S' := T6.setTop (mkF m 25 #[.val (.ref a1), .val (.long q2), .second] [(.int w3)])) (fun t k => XS.goto X6.here hx rfl (pc0 := 20) (pc' := 25) rfl (hb hby d5_20) (by decide) (by decide) k) ?_
    obtain ⟨fs, hr, hrun, hended, hW, hsame⟩ := X6.leave (v := some (.int w3)) (fun h => by rw [Bd.returns] at h; cases h)
    exact ⟨_, _, retI X6 hx Bd.returns (hb hby d5_25) hr, hrun, hended, _, _, rfl, ⟨by simp only [own_dur, if_pos c1], N0, e6⟩, ⟨_, rfl⟩, hW, hsame.mono (by decide) (by decide)⟩
  · refine Goes.step (S' := s₁.setTop (mkF m 1 #[.val (.ref a1), .val (.long q2), .second] [(.long q2)])) (fun t k => XS.lloadN X0.here hx rfl (hb hby d5_0) rfl k) ?_
    refine Goes.step (S' := s₁.setTop (mkF m 2 #[.val (.ref a1), .val (.long q2), .second] [(.long (0 : Int64)), (.long q2)])) (fun t k => XS.lconst X0.here hx rfl (hb hby d5_1) k) ?_
    refine Goes.step (S' := s₁.setTop (mkF m 3 #[.val (.ref a1), .val (.long q2), .second] [(.int (lcmpW q2 (0 : Int64)))])) (fun t k => XS.lcmp X0.here hx rfl (hb hby d5_2) rfl k) ?_
    refine Goes.step (S' := s₁.setTop (mkF m 6 #[.val (.ref a1), .val (.long q2), .second] [])) (fun t k => XS.ifNo X0.here hx rfl (hb hby d5_3) rfl ((if0 _ _).trans (feq (own_lcne c1)).1) k) ?_
    refine Goes.step (S' := s₁.setTop (mkF m 7 #[.val (.ref a1), .val (.long q2), .second] [(.long q2)])) (fun t k => XS.lloadN X0.here hx rfl (hb hby d5_6) rfl k) ?_
    refine Goes.step (S' := s₁.setTop (mkF m 8 #[.val (.ref a1), .val (.long q2), .second] [(.ref a1), (.long q2)])) (fun t k => XS.aloadN X0.here hx rfl (hb hby d5_7) rfl rfl k) ?_
    obtain ⟨T7, X7, e7, st7⟩ := getF X0 hx hZ hown (host := "") (Or.inl (hw _ (List.mem_of_getElem? (i := 21) rfl))) Via.refl e0 F1 (g := (mkF m 8 #[.val (.ref a1), .val (.long q2), .second] [(.ref a1), (.long q2)])) rfl rfl (hb hby d5_8)
    refine Goes.step (S' := T7.setTop (mkF m 11 #[.val (.ref a1), .val (.long q2), .second] [(.int w3), (.long q2)])) (fun t k => st7 t k) ?_
    refine Goes.step (S' := T7.setTop (mkF m 12 #[.val (.ref a1), .val (.long q2), .second] [(.long (w3.toInt64)), (.long q2)])) (fun t k => XS.i2l X7.here hx rfl (hb hby d5_11) rfl k) ?_
    refine Goes.step (S' := T7.setTop (mkF m 13 #[.val (.ref a1), .val (.long q2), .second] [(.int (lcmpW q2 (w3.toInt64)))])) (fun t k => XS.lcmp X7.here hx rfl (hb hby d5_12) rfl k) ?_
    by_cases c2 : (w3.toInt64) < q2
    · refine Goes.step (S' := T7.setTop (mkF m 16 #[.val (.ref a1), .val (.long q2), .second] [])) (fun t k => XS.ifNo X7.here hx rfl (hb hby d5_13) rfl ((if0 _ _).trans (tlt (own_lc_gt c2)).2.2.2) k) ?_
      refine Goes.step (S' := T7.setTop (mkF m 17 #[.val (.ref a1), .val (.long q2), .second] [(.ref a1)])) (fun t k => XS.aloadN X7.here hx rfl (hb hby d5_16) rfl rfl k) ?_
      obtain ⟨T8, X8, e8, st8⟩ := getF X7 hx hZ hown (host := "") (Or.inl (hw _ (List.mem_of_getElem? (i := 21) rfl))) Via.refl e7 F1 (g := (mkF m 17 #[.val (.ref a1), .val (.long q2), .second] [(.ref a1)])) rfl rfl (hb hby d5_17)
      refine Goes.step (S' := T8.setTop (mkF m 20 #[.val (.ref a1), .val (.long q2), .second] [(.int w3)])) (fun t k => st8 t k) ?_
      refine Goes.step (S' := T8.setTop (mkF m 25 #[.val (.ref a1), .val (.long q2), .second] [(.int w3)])) (fun t k => XS.goto X8.here hx rfl (pc0 := 20) (pc' := 25) rfl (hb hby d5_20) (by decide) (by decide) k) ?_
      obtain ⟨fs, hr, hrun, hended, hW, hsame⟩ := X8.leave (v := some (.int w3)) (fun h => by rw [Bd.returns] at h; cases h)
      exact ⟨_, _, retI X8 hx Bd.returns (hb hby d5_25) hr, hrun, hended, _, _, rfl, ⟨by simp only [own_dur, if_neg c1, if_pos c2], N0, e8⟩, ⟨_, rfl⟩, hW, hsame.mono (by decide) (by decide)⟩
    · refine Goes.step (S' := T7.setTop (mkF m 23 #[.val (.ref a1), .val (.long q2), .second] [])) (fun t k => XS.ifYes X7.here hx rfl (pc0 := 13) (pc' := 23) rfl (hb hby d5_13) rfl ((if0 _ _).trans (flt (own_lc_ngt c2)).2.2.2) (by decide) (by decide) k) ?_
      refine Goes.step (S' := T7.setTop (mkF m 24 #[.val (.ref a1), .val (.long q2), .second] [(.long q2)])) (fun t k => XS.lloadN X7.here hx rfl (hb hby d5_23) rfl k) ?_
      refine Goes.step (S' := T7.setTop (mkF m 25 #[.val (.ref a1), .val (.long q2), .second] [(.int (q2.toInt32))])) (fun t k => XS.l2i X7.here hx rfl (hb hby d5_24) rfl k) ?_
      obtain ⟨fs, hr, hrun, hended, hW, hsame⟩ := X7.leave (v := some (.int (q2.toInt32))) (fun h => by rw [Bd.returns] at h; cases h)
      exact ⟨_, _, retI X7 hx Bd.returns (hb hby d5_25) hr, hrun, hended, _, _, rfl, ⟨by simp only [own_dur, if_neg c1, if_neg c2], N0, e7⟩, ⟨_, rfl⟩, hW, hsame.mono (by decide) (by decide)⟩
theorem pn_0 : plainName "com/example/sidereal/sidereal/engine/config/JobLimitsDurationPinLaw" = true := by first | (simp [plainName, overriddenIn]; done) | decide +kernel
theorem pd_0 : parseMethodDescriptor "(IIIJI)Z" = some ⟨[.int, .int, .int, .long, .int], some .boolean⟩ := by decide +kernel
theorem ef_0 (m : MethodId) (y0 : Int32) (y1 : Int32) (y2 : Int32) (y3 : Int64) (y4 : Int32) : entryFrame m #[(.int y0), (.int y1), (.int y2), (.long y3), (.int y4)] maxLocals = mkF m 0 #[.val (.int y0), .val (.int y1), .val (.int y2), .val (.long y3), .second, .val (.int y4), .unset, .unset, .unset, .unset, .unset, .unset, .unset, .unset, .unset] [] := by first | (simp [entryFrame, mkF, argsToLocals, Value.category, maxLocals]; done) | rfl
def Q0 (Z : State) (p1 : Int32) (p2 : Int32) (p3 : Int32) (q4 : Int64) (p5 : Int32) (h0 : Heap) (n0 : Nat) (v : Option Value) (h : Heap) (L : List Loc) : Prop := v = some (.int 1) ∧ Fr n0 L
def R0 (Z : State) (p1 : Int32) (p2 : Int32) (p3 : Int32) (q4 : Int64) (p5 : Int32) (h0 : Heap) (n0 : Nat) (U : State) (U' : State) (o : Outcome) : Prop := ∃ v L, o = .returned v ∧ Q0 Z p1 p2 p3 q4 p5 h0 n0 v U'.heap L ∧ FrameEnd U o U' L room_1.cells room_1.slots
set_option maxRecDepth 65536 in
set_option maxHeartbeats 40000000 in
theorem rm0 (l : Launch) (Z : State) (a0 : Array Value) (hw : ∀ d ∈ tables_1, d.before a0 Z = true) (ws : List Jvm.Cond) (p1 : Int32) (p2 : Int32) (p3 : Int32) (q4 : Int64) (p5 : Int32) (h0 : Heap) (n0 : Nat) (Z0 : n0 ≤ h0.size)  :
    MetFree l x (head1 (Jvm.Cond.code x code maxLocals ret :: ws) room_1) (fun a U => a = #[(.int p1), (.int p2), (.int p3), (.long q4), (.int p5)] ∧ Z.Warmed39 U.vm ∧ U.heap = h0) (fun _ _ _ _ _ => True) (fun _ U o U' => ∃ v L, o = .returned v ∧ Q0 Z p1 p2 p3 q4 p5 h0 n0 v U'.heap L ∧ FrameEnd U o U' L room_1.cells room_1.slots) := by
  refine MetFree.of_bodySF (plainFor_of_name pn_0) hisR ?_
  intro p e s m args below meth c s₁ Bd hml0 hP hK
  obtain ⟨rfl, hZ, hh⟩ := hP
  have hx := Bd.exec
  have hby := Bd.bytes
  have hml : c.maxLocals = 15 := hml0
  have hown : s.vm.findClass "com/example/sidereal/sidereal/engine/config/JobLimitsDurationPinLaw" = some m.cls := findClass_of_methodNamed Bd.named
  have hnm := (name_of_methodNamed Bd.named Bd.method).1
  have X0 : Stand p l e room_1 s m #[(.int p1), (.int p2), (.int p3), (.long q4), (.int p5)] below meth c s₁ [] 0 0 := Stand.of_body Bd
  have e0 : s₁.heap = h0 := by rw [← hh, Bd.state]; rfl
  have N0 := Fr.nil n0
  show Goes p e below (R0 Z p1 p2 p3 q4 p5 h0 n0 s) (s₁.setTop (entryFrame m #[(.int p1), (.int p2), (.int p3), (.long q4), (.int p5)] maxLocals))
  refine Goes.step (S' := s₁.setTop (mkF m 0 #[.val (.int p1), .val (.int p2), .val (.int p3), .val (.long q4), .second, .val (.int p5), .unset, .unset, .unset, .unset, .unset, .unset, .unset, .unset, .unset] [])) (fun t k => castTop (ef_0 m p1 p2 p3 q4 p5) k) ?_
  refine Goes.step (S' := s₁.setTop (mkF m 1 #[.val (.int p1), .val (.int p2), .val (.int p3), .val (.long q4), .second, .val (.int p5), .unset, .unset, .unset, .unset, .unset, .unset, .unset, .unset, .unset] [(.int p2)])) (fun t k => XS.iloadN X0.here hx rfl (hb hby at_0) rfl k) ?_
  refine Goes.step (S' := s₁.setTop (mkF m 3 #[.val (.int p1), .val (.int p2), .val (.int p3), .val (.long q4), .second, .val (.int p5), .unset, .unset, .unset, .unset, .unset, .unset, .unset, .unset, .unset] [(.int (2147483647 : Int32)), (.int p2)])) (fun t k => X0.ldcInt hx hown (mvT hZ (hw _ (List.mem_of_getElem? (i := 0) rfl))) (g := (mkF m 1 #[.val (.int p1), .val (.int p2), .val (.int p3), .val (.long q4), .second, .val (.int p5), .unset, .unset, .unset, .unset, .unset, .unset, .unset, .unset, .unset] [(.int p2)])) rfl (hb hby at_1) _ k) ?_
  refine Goes.step (S' := s₁.setTop (mkF m 4 #[.val (.int p1), .val (.int p2), .val (.int p3), .val (.long q4), .second, .val (.int p5), .unset, .unset, .unset, .unset, .unset, .unset, .unset, .unset, .unset] [(.int (p2 &&& (2147483647 : Int32)))])) (fun t k => XS.iand X0.here hx rfl (hb hby at_3) rfl k) ?_
  refine Goes.step (S' := s₁.setTop (mkF m 6 #[.val (.int p1), .val (.int p2), .val (.int p3), .val (.long q4), .second, .val (.int p5), .val (.int (p2 &&& (2147483647 : Int32))), .unset, .unset, .unset, .unset, .unset, .unset, .unset, .unset] [])) (fun t k => XS.istore X0.here hx rfl (hb hby at_4) rfl (l' := #[.val (.int p1), .val (.int p2), .val (.int p3), .val (.long q4), .second, .val (.int p5), .val (.int (p2 &&& (2147483647 : Int32))), .unset, .unset, .unset, .unset, .unset, .unset, .unset, .unset]) rfl k) ?_
  refine Goes.step (S' := s₁.setTop (mkF m 8 #[.val (.int p1), .val (.int p2), .val (.int p3), .val (.long q4), .second, .val (.int p5), .val (.int (p2 &&& (2147483647 : Int32))), .unset, .unset, .unset, .unset, .unset, .unset, .unset, .unset] [(.int (p2 &&& (2147483647 : Int32)))])) (fun t k => XS.iload X0.here hx rfl (hb hby at_6) rfl k) ?_
  have K14 : ∀ (mm : Int32) (hm : 1 ≤ mm.toInt), Goes p e below (R0 Z p1 p2 p3 q4 p5 h0 n0 s) (s₁.setTop (mkF m 14 #[.val (.int p1), .val (.int p2), .val (.int p3), .val (.long q4), .second, .val (.int p5), .val (.int mm), .unset, .unset, .unset, .unset, .unset, .unset, .unset, .unset] [])) := by
    intro mm hm
    refine Goes.step (S' := s₁.setTop (mkF m 15 #[.val (.int p1), .val (.int p2), .val (.int p3), .val (.long q4), .second, .val (.int p5), .val (.int mm), .unset, .unset, .unset, .unset, .unset, .unset, .unset, .unset] [(.int (1 : Int32))])) (fun t k => XS.iconst X0.here hx rfl (hb hby at_14) k) ?_
    refine Goes.step (S' := s₁.setTop (mkF m 16 #[.val (.int p1), .val (.int p2), .val (.int p3), .val (.long q4), .second, .val (.int p5), .val (.int mm), .unset, .unset, .unset, .unset, .unset, .unset, .unset, .unset] [(.int p1), (.int (1 : Int32))])) (fun t k => XS.iloadN X0.here hx rfl (hb hby at_15) rfl k) ?_
    refine Goes.step (S' := s₁.setTop (mkF m 18 #[.val (.int p1), .val (.int p2), .val (.int p3), .val (.long q4), .second, .val (.int p5), .val (.int mm), .unset, .unset, .unset, .unset, .unset, .unset, .unset, .unset] [(.int (2147483647 : Int32)), (.int p1), (.int (1 : Int32))])) (fun t k => X0.ldcInt hx hown (mvT hZ (hw _ (List.mem_of_getElem? (i := 0) rfl))) (g := (mkF m 16 #[.val (.int p1), .val (.int p2), .val (.int p3), .val (.long q4), .second, .val (.int p5), .val (.int mm), .unset, .unset, .unset, .unset, .unset, .unset, .unset, .unset] [(.int p1), (.int (1 : Int32))])) rfl (hb hby at_16) _ k) ?_
    refine Goes.step (S' := s₁.setTop (mkF m 19 #[.val (.int p1), .val (.int p2), .val (.int p3), .val (.long q4), .second, .val (.int p5), .val (.int mm), .unset, .unset, .unset, .unset, .unset, .unset, .unset, .unset] [(.int (p1 &&& (2147483647 : Int32))), (.int (1 : Int32))])) (fun t k => XS.iand X0.here hx rfl (hb hby at_18) rfl k) ?_
    refine Goes.step (S' := s₁.setTop (mkF m 21 #[.val (.int p1), .val (.int p2), .val (.int p3), .val (.long q4), .second, .val (.int p5), .val (.int mm), .unset, .unset, .unset, .unset, .unset, .unset, .unset, .unset] [(.int mm), (.int (p1 &&& (2147483647 : Int32))), (.int (1 : Int32))])) (fun t k => XS.iload X0.here hx rfl (hb hby at_19) rfl k) ?_
    refine Goes.step (S' := s₁.setTop (mkF m 22 #[.val (.int p1), .val (.int p2), .val (.int p3), .val (.long q4), .second, .val (.int p5), .val (.int mm), .unset, .unset, .unset, .unset, .unset, .unset, .unset, .unset] [(.int ((p1 &&& (2147483647 : Int32)) % mm)), (.int (1 : Int32))])) (fun t k => iremM X0 hx rfl (hb hby at_21) rfl (own_nz hm) k) ?_
    refine Goes.step (S' := s₁.setTop (mkF m 23 #[.val (.int p1), .val (.int p2), .val (.int p3), .val (.long q4), .second, .val (.int p5), .val (.int mm), .unset, .unset, .unset, .unset, .unset, .unset, .unset, .unset] [(.int ((1 : Int32) + ((p1 &&& (2147483647 : Int32)) % mm)))])) (fun t k => XS.iadd X0.here hx rfl (hb hby at_22) rfl k) ?_
    refine Goes.step (S' := s₁.setTop (mkF m 25 #[.val (.int p1), .val (.int p2), .val (.int p3), .val (.long q4), .second, .val (.int p5), .val (.int mm), .val (.int ((1 : Int32) + ((p1 &&& (2147483647 : Int32)) % mm))), .unset, .unset, .unset, .unset, .unset, .unset, .unset] [])) (fun t k => XS.istore X0.here hx rfl (hb hby at_23) rfl (l' := #[.val (.int p1), .val (.int p2), .val (.int p3), .val (.long q4), .second, .val (.int p5), .val (.int mm), .val (.int ((1 : Int32) + ((p1 &&& (2147483647 : Int32)) % mm))), .unset, .unset, .unset, .unset, .unset, .unset, .unset]) rfl k) ?_
    refine Goes.step (S' := s₁.setTop (mkF m 26 #[.val (.int p1), .val (.int p2), .val (.int p3), .val (.long q4), .second, .val (.int p5), .val (.int mm), .val (.int ((1 : Int32) + ((p1 &&& (2147483647 : Int32)) % mm))), .unset, .unset, .unset, .unset, .unset, .unset, .unset] [(.int (1 : Int32))])) (fun t k => XS.iconst X0.here hx rfl (hb hby at_25) k) ?_
    refine Goes.step (S' := s₁.setTop (mkF m 27 #[.val (.int p1), .val (.int p2), .val (.int p3), .val (.long q4), .second, .val (.int p5), .val (.int mm), .val (.int ((1 : Int32) + ((p1 &&& (2147483647 : Int32)) % mm))), .unset, .unset, .unset, .unset, .unset, .unset, .unset] [(.int p3), (.int (1 : Int32))])) (fun t k => XS.iloadN X0.here hx rfl (hb hby at_26) rfl k) ?_
    refine Goes.step (S' := s₁.setTop (mkF m 29 #[.val (.int p1), .val (.int p2), .val (.int p3), .val (.long q4), .second, .val (.int p5), .val (.int mm), .val (.int ((1 : Int32) + ((p1 &&& (2147483647 : Int32)) % mm))), .unset, .unset, .unset, .unset, .unset, .unset, .unset] [(.int (2147483647 : Int32)), (.int p3), (.int (1 : Int32))])) (fun t k => X0.ldcInt hx hown (mvT hZ (hw _ (List.mem_of_getElem? (i := 0) rfl))) (g := (mkF m 27 #[.val (.int p1), .val (.int p2), .val (.int p3), .val (.long q4), .second, .val (.int p5), .val (.int mm), .val (.int ((1 : Int32) + ((p1 &&& (2147483647 : Int32)) % mm))), .unset, .unset, .unset, .unset, .unset, .unset, .unset] [(.int p3), (.int (1 : Int32))])) rfl (hb hby at_27) _ k) ?_
    refine Goes.step (S' := s₁.setTop (mkF m 30 #[.val (.int p1), .val (.int p2), .val (.int p3), .val (.long q4), .second, .val (.int p5), .val (.int mm), .val (.int ((1 : Int32) + ((p1 &&& (2147483647 : Int32)) % mm))), .unset, .unset, .unset, .unset, .unset, .unset, .unset] [(.int (p3 &&& (2147483647 : Int32))), (.int (1 : Int32))])) (fun t k => XS.iand X0.here hx rfl (hb hby at_29) rfl k) ?_
    obtain ⟨_, _, ⟨T10, L10, k10, n10⟩, -, X10, ⟨Lc10, hQ10, l10, y10, z10⟩, st10⟩ := Jvm.LawKit.callS X0 hx (y := (⟨"java/lang/Math", "max", "(II)I"⟩ : MethodName)) hown (mvT hZ (hw _ (List.mem_of_getElem? (i := 1) rfl))) (mvT hZ (hw _ (List.mem_of_getElem? (i := 2) rfl))) (mvT hZ (hw _ (List.mem_of_getElem? (i := 3) rfl))) (mvT hZ (hw _ (List.mem_of_getElem? (i := 4) rfl))) (by decide) (backOf (W := 0) (rm1 l Z a0 hw [] (1 : Int32) (p3 &&& (2147483647 : Int32)) h0 n0 Z0) hZ (hw _ (List.mem_of_getElem? (i := 4) rfl)) (hw _ (List.mem_of_getElem? (i := 3) rfl)) (by decide) (by decide)) (g := (mkF m 30 #[.val (.int p1), .val (.int p2), .val (.int p3), .val (.long q4), .second, .val (.int p5), .val (.int mm), .val (.int ((1 : Int32) + ((p1 &&& (2147483647 : Int32)) % mm))), .unset, .unset, .unset, .unset, .unset, .unset, .unset] [(.int (p3 &&& (2147483647 : Int32))), (.int (1 : Int32))])) rfl (by rw [hml]; rfl) (argsL := [(.int (1 : Int32)), (.int (p3 &&& (2147483647 : Int32)))]) (rest := []) (lenOf pd_1 rfl) rfl (by show 2 * 0 + _ ≤ _; exact Nat.le_of_eq rfl) (hb hby at_30) (fun _ _ => ⟨rfl, e0, (by decide : 0 + 0 ≤ _), (by decide : 0 + 0 ≤ _)⟩)
    dsimp only [Pt.U, Pt.locs, Pt.cells, Pt.slots] at X10 l10 y10 z10 st10 hQ10
    subst l10 y10 z10
    obtain ⟨rfl, N10q, e10⟩ := hQ10
    have N10 := Fr.app N0 N10q
    refine Goes.step (S' := T10.setTop (mkF m 33 #[.val (.int p1), .val (.int p2), .val (.int p3), .val (.long q4), .second, .val (.int p5), .val (.int mm), .val (.int ((1 : Int32) + ((p1 &&& (2147483647 : Int32)) % mm))), .unset, .unset, .unset, .unset, .unset, .unset, .unset] [(.int (own_maxI (1 : Int32) (p3 &&& (2147483647 : Int32))))])) (fun t k => st10 t k) ?_
    refine Goes.step (S' := T10.setTop (mkF m 35 #[.val (.int p1), .val (.int p2), .val (.int p3), .val (.long q4), .second, .val (.int p5), .val (.int mm), .val (.int ((1 : Int32) + ((p1 &&& (2147483647 : Int32)) % mm))), .val (.int (own_maxI (1 : Int32) (p3 &&& (2147483647 : Int32)))), .unset, .unset, .unset, .unset, .unset, .unset] [])) (fun t k => XS.istore X10.here hx rfl (hb hby at_33) rfl (l' := #[.val (.int p1), .val (.int p2), .val (.int p3), .val (.long q4), .second, .val (.int p5), .val (.int mm), .val (.int ((1 : Int32) + ((p1 &&& (2147483647 : Int32)) % mm))), .val (.int (own_maxI (1 : Int32) (p3 &&& (2147483647 : Int32)))), .unset, .unset, .unset, .unset, .unset, .unset]) rfl k) ?_
    refine Goes.step (S' := T10.setTop (mkF m 37 #[.val (.int p1), .val (.int p2), .val (.int p3), .val (.long q4), .second, .val (.int p5), .val (.int mm), .val (.int ((1 : Int32) + ((p1 &&& (2147483647 : Int32)) % mm))), .val (.int (own_maxI (1 : Int32) (p3 &&& (2147483647 : Int32)))), .unset, .unset, .unset, .unset, .unset, .unset] [(.int p5)])) (fun t k => XS.iload X10.here hx rfl (hb hby at_35) rfl k) ?_
    refine Goes.step (S' := T10.setTop (mkF m 38 #[.val (.int p1), .val (.int p2), .val (.int p3), .val (.long q4), .second, .val (.int p5), .val (.int mm), .val (.int ((1 : Int32) + ((p1 &&& (2147483647 : Int32)) % mm))), .val (.int (own_maxI (1 : Int32) (p3 &&& (2147483647 : Int32)))), .unset, .unset, .unset, .unset, .unset, .unset] [(.int (3 : Int32)), (.int p5)])) (fun t k => XS.iconst X10.here hx rfl (hb hby at_37) k) ?_
    refine Goes.step (S' := T10.setTop (mkF m 39 #[.val (.int p1), .val (.int p2), .val (.int p3), .val (.long q4), .second, .val (.int p5), .val (.int mm), .val (.int ((1 : Int32) + ((p1 &&& (2147483647 : Int32)) % mm))), .val (.int (own_maxI (1 : Int32) (p3 &&& (2147483647 : Int32)))), .unset, .unset, .unset, .unset, .unset, .unset] [(.int (p5 &&& (3 : Int32)))])) (fun t k => XS.iand X10.here hx rfl (hb hby at_38) rfl k) ?_
    refine Goes.step (S' := T10.setTop (mkF m 41 #[.val (.int p1), .val (.int p2), .val (.int p3), .val (.long q4), .second, .val (.int p5), .val (.int mm), .val (.int ((1 : Int32) + ((p1 &&& (2147483647 : Int32)) % mm))), .val (.int (own_maxI (1 : Int32) (p3 &&& (2147483647 : Int32)))), .unset, .unset, .val (.int (p5 &&& (3 : Int32))), .unset, .unset, .unset] [])) (fun t k => XS.istore X10.here hx rfl (hb hby at_39) rfl (l' := #[.val (.int p1), .val (.int p2), .val (.int p3), .val (.long q4), .second, .val (.int p5), .val (.int mm), .val (.int ((1 : Int32) + ((p1 &&& (2147483647 : Int32)) % mm))), .val (.int (own_maxI (1 : Int32) (p3 &&& (2147483647 : Int32)))), .unset, .unset, .val (.int (p5 &&& (3 : Int32))), .unset, .unset, .unset]) rfl k) ?_
    refine Goes.step (S' := T10.setTop (mkF m 43 #[.val (.int p1), .val (.int p2), .val (.int p3), .val (.long q4), .second, .val (.int p5), .val (.int mm), .val (.int ((1 : Int32) + ((p1 &&& (2147483647 : Int32)) % mm))), .val (.int (own_maxI (1 : Int32) (p3 &&& (2147483647 : Int32)))), .unset, .unset, .val (.int (p5 &&& (3 : Int32))), .unset, .unset, .unset] [(.int (p5 &&& (3 : Int32)))])) (fun t k => XS.iload X10.here hx rfl (hb hby at_41) rfl k) ?_
    have K101 : ∀ (rq : Int64) (hq : 0 ≤ rq.toInt), Goes p e below (R0 Z p1 p2 p3 q4 p5 h0 n0 s) (T10.setTop (mkF m 101 #[.val (.int p1), .val (.int p2), .val (.int p3), .val (.long q4), .second, .val (.int p5), .val (.int mm), .val (.int ((1 : Int32) + ((p1 &&& (2147483647 : Int32)) % mm))), .val (.int (own_maxI (1 : Int32) (p3 &&& (2147483647 : Int32)))), .val (.long rq), .second, .val (.int (p5 &&& (3 : Int32))), .unset, .unset, .unset] [])) := by
      intro rq hq
      obtain ⟨T12, h12, X12, e12, E12, A_r1, D_r1, -, st12⟩ := newO X10 hx hZ hown (hw _ (List.mem_of_getElem? (i := 5) rfl)) (hw _ (List.mem_of_getElem? (i := 6) rfl)) (hw _ (List.mem_of_getElem? (i := 7) rfl)) e10 (g := (mkF m 101 #[.val (.int p1), .val (.int p2), .val (.int p3), .val (.long q4), .second, .val (.int p5), .val (.int mm), .val (.int ((1 : Int32) + ((p1 &&& (2147483647 : Int32)) % mm))), .val (.int (own_maxI (1 : Int32) (p3 &&& (2147483647 : Int32)))), .val (.long rq), .second, .val (.int (p5 &&& (3 : Int32))), .unset, .unset, .unset] [])) rfl (hb hby at_101) (by decide) (by decide)
      obtain ⟨r1, g_r1⟩ : ∃ z, z = h0.size := ⟨_, rfl⟩
      rw [← g_r1] at A_r1 D_r1 st12
      refine Goes.step (S' := T12.setTop (mkF m 104 #[.val (.int p1), .val (.int p2), .val (.int p3), .val (.long q4), .second, .val (.int p5), .val (.int mm), .val (.int ((1 : Int32) + ((p1 &&& (2147483647 : Int32)) % mm))), .val (.int (own_maxI (1 : Int32) (p3 &&& (2147483647 : Int32)))), .val (.long rq), .second, .val (.int (p5 &&& (3 : Int32))), .unset, .unset, .unset] [(.ref r1)])) (fun t k => st12 t k) ?_
      have Zn : n0 ≤ h12.size := Nat.le_trans Z0 E12.1
      refine Goes.step (S' := T12.setTop (mkF m 105 #[.val (.int p1), .val (.int p2), .val (.int p3), .val (.long q4), .second, .val (.int p5), .val (.int mm), .val (.int ((1 : Int32) + ((p1 &&& (2147483647 : Int32)) % mm))), .val (.int (own_maxI (1 : Int32) (p3 &&& (2147483647 : Int32)))), .val (.long rq), .second, .val (.int (p5 &&& (3 : Int32))), .unset, .unset, .unset] [(.ref r1), (.ref r1)])) (fun t k => XS.dup X12.here hx rfl (hb hby at_104) rfl rfl k) ?_
      refine Goes.step (S' := T12.setTop (mkF m 107 #[.val (.int p1), .val (.int p2), .val (.int p3), .val (.long q4), .second, .val (.int p5), .val (.int mm), .val (.int ((1 : Int32) + ((p1 &&& (2147483647 : Int32)) % mm))), .val (.int (own_maxI (1 : Int32) (p3 &&& (2147483647 : Int32)))), .val (.long rq), .second, .val (.int (p5 &&& (3 : Int32))), .unset, .unset, .unset] [(.int ((1 : Int32) + ((p1 &&& (2147483647 : Int32)) % mm))), (.ref r1), (.ref r1)])) (fun t k => XS.iload X12.here hx rfl (hb hby at_105) rfl k) ?_
      refine Goes.step (S' := T12.setTop (mkF m 109 #[.val (.int p1), .val (.int p2), .val (.int p3), .val (.long q4), .second, .val (.int p5), .val (.int mm), .val (.int ((1 : Int32) + ((p1 &&& (2147483647 : Int32)) % mm))), .val (.int (own_maxI (1 : Int32) (p3 &&& (2147483647 : Int32)))), .val (.long rq), .second, .val (.int (p5 &&& (3 : Int32))), .unset, .unset, .unset] [(.int mm), (.int ((1 : Int32) + ((p1 &&& (2147483647 : Int32)) % mm))), (.ref r1), (.ref r1)])) (fun t k => XS.iload X12.here hx rfl (hb hby at_107) rfl k) ?_
      refine Goes.step (S' := T12.setTop (mkF m 111 #[.val (.int p1), .val (.int p2), .val (.int p3), .val (.long q4), .second, .val (.int p5), .val (.int mm), .val (.int ((1 : Int32) + ((p1 &&& (2147483647 : Int32)) % mm))), .val (.int (own_maxI (1 : Int32) (p3 &&& (2147483647 : Int32)))), .val (.long rq), .second, .val (.int (p5 &&& (3 : Int32))), .unset, .unset, .unset] [(.int (own_maxI (1 : Int32) (p3 &&& (2147483647 : Int32)))), (.int mm), (.int ((1 : Int32) + ((p1 &&& (2147483647 : Int32)) % mm))), (.ref r1), (.ref r1)])) (fun t k => XS.iload X12.here hx rfl (hb hby at_109) rfl k) ?_
      obtain ⟨d1, d2⟩ := own_dd p1 hm
      obtain ⟨_, _, ⟨T13, L13, k13, n13⟩, -, X13, ⟨Lc13, hQ13, l13, y13, z13⟩, st13⟩ := X12.specialBack hx (y := (⟨"com/example/sidereal/sidereal/engine/config/JobLimits", "<init>", "(III)V"⟩ : MethodName)) rfl hown (mvT hZ (hw _ (List.mem_of_getElem? (i := 8) rfl))) (mvT hZ (hw _ (List.mem_of_getElem? (i := 9) rfl))) (mvT hZ (hw _ (List.mem_of_getElem? (i := 10) rfl))) (by decide) (backOf (W := 1) (rm4 l Z a0 hw [] r1 ((1 : Int32) + ((p1 &&& (2147483647 : Int32)) % mm)) mm (own_maxI (1 : Int32) (p3 &&& (2147483647 : Int32))) _ _ _ h12 n0 Zn A_r1 (D_r1 (Or.inr (hw _ (List.mem_of_getElem? (i := 20) rfl))) (ty := .int) (by decide)) (D_r1 (Or.inr (hw _ (List.mem_of_getElem? (i := 22) rfl))) (ty := .int) (by decide)) (D_r1 (Or.inr (hw _ (List.mem_of_getElem? (i := 24) rfl))) (ty := .int) (by decide)) (Nat.le_trans Z0 (Nat.le_of_eq g_r1.symm)) d1 d2 (own_rr _)) hZ (hw _ (List.mem_of_getElem? (i := 10) rfl)) (hw _ (List.mem_of_getElem? (i := 7) rfl)) (by decide) (by decide)) (g := (mkF m 111 #[.val (.int p1), .val (.int p2), .val (.int p3), .val (.long q4), .second, .val (.int p5), .val (.int mm), .val (.int ((1 : Int32) + ((p1 &&& (2147483647 : Int32)) % mm))), .val (.int (own_maxI (1 : Int32) (p3 &&& (2147483647 : Int32)))), .val (.long rq), .second, .val (.int (p5 &&& (3 : Int32))), .unset, .unset, .unset] [(.int (own_maxI (1 : Int32) (p3 &&& (2147483647 : Int32)))), (.int mm), (.int ((1 : Int32) + ((p1 &&& (2147483647 : Int32)) % mm))), (.ref r1), (.ref r1)])) rfl (by rw [hml]; rfl) (Steps.refl _) (a := r1) (argsL := [(.int ((1 : Int32) + ((p1 &&& (2147483647 : Int32)) % mm))), (.int mm), (.int (own_maxI (1 : Int32) (p3 &&& (2147483647 : Int32))))]) (rest := [(.ref r1)]) (lenOf pd_4 rfl) rfl (by show 2 * 0 + _ ≤ _; exact Nat.le_of_eq rfl) (hb hby at_111) (fun _ _ => ⟨rfl, e12, (by decide : 1 + 0 ≤ _), (by decide : 3 + 0 ≤ _)⟩)
      dsimp only [Pt.U, Pt.locs, Pt.cells, Pt.slots] at X13 l13 y13 z13 st13 hQ13
      subst l13 y13 z13
      obtain ⟨rfl, N13q, Kc13, Ec13, Fm13⟩ := hQ13
      have N13 := Fr.app N10 N13q
      refine Goes.step (S' := T13.setTop (mkF m 114 #[.val (.int p1), .val (.int p2), .val (.int p3), .val (.long q4), .second, .val (.int p5), .val (.int mm), .val (.int ((1 : Int32) + ((p1 &&& (2147483647 : Int32)) % mm))), .val (.int (own_maxI (1 : Int32) (p3 &&& (2147483647 : Int32)))), .val (.long rq), .second, .val (.int (p5 &&& (3 : Int32))), .unset, .unset, .unset] [(.ref r1)])) (fun t k => st13.trans k) ?_
      have Zc : n0 ≤ T13.heap.size := Nat.le_trans Zn Kc13.1
      refine Goes.step (S' := T13.setTop (mkF m 116 #[.val (.int p1), .val (.int p2), .val (.int p3), .val (.long q4), .second, .val (.int p5), .val (.int mm), .val (.int ((1 : Int32) + ((p1 &&& (2147483647 : Int32)) % mm))), .val (.int (own_maxI (1 : Int32) (p3 &&& (2147483647 : Int32)))), .val (.long rq), .second, .val (.int (p5 &&& (3 : Int32))), .val (.ref r1), .unset, .unset] [])) (fun t k => XS.astore X13.here hx rfl (hb hby at_114) rfl rfl (l' := #[.val (.int p1), .val (.int p2), .val (.int p3), .val (.long q4), .second, .val (.int p5), .val (.int mm), .val (.int ((1 : Int32) + ((p1 &&& (2147483647 : Int32)) % mm))), .val (.int (own_maxI (1 : Int32) (p3 &&& (2147483647 : Int32)))), .val (.long rq), .second, .val (.int (p5 &&& (3 : Int32))), .val (.ref r1), .unset, .unset]) rfl k) ?_
      refine Goes.step (S' := T13.setTop (mkF m 118 #[.val (.int p1), .val (.int p2), .val (.int p3), .val (.long q4), .second, .val (.int p5), .val (.int mm), .val (.int ((1 : Int32) + ((p1 &&& (2147483647 : Int32)) % mm))), .val (.int (own_maxI (1 : Int32) (p3 &&& (2147483647 : Int32)))), .val (.long rq), .second, .val (.int (p5 &&& (3 : Int32))), .val (.ref r1), .unset, .unset] [(.ref r1)])) (fun t k => XS.aload X13.here hx rfl (hb hby at_116) rfl rfl k) ?_
      refine Goes.step (S' := T13.setTop (mkF m 120 #[.val (.int p1), .val (.int p2), .val (.int p3), .val (.long q4), .second, .val (.int p5), .val (.int mm), .val (.int ((1 : Int32) + ((p1 &&& (2147483647 : Int32)) % mm))), .val (.int (own_maxI (1 : Int32) (p3 &&& (2147483647 : Int32)))), .val (.long rq), .second, .val (.int (p5 &&& (3 : Int32))), .val (.ref r1), .unset, .unset] [(.long rq), (.ref r1)])) (fun t k => XS.lload X13.here hx rfl (hb hby at_118) rfl k) ?_
      obtain ⟨cq14, kq14, q14a, q14b, q14c⟩ := isOf hZ rfl Ec13
      obtain ⟨_, _, ⟨T14, L14, k14, n14⟩, -, X14, ⟨Lc14, hQ14, l14, y14, z14⟩, st14⟩ := X13.virtualBack hx (y := (⟨"com/example/sidereal/sidereal/engine/config/JobLimits", "duration", "(J)I"⟩ : MethodName)) (z := (⟨"com/example/sidereal/sidereal/engine/config/JobLimits", "duration", "(J)I"⟩ : MethodName)) hown (mvT hZ (hw _ (List.mem_of_getElem? (i := 25) rfl))) (mvT hZ (hw _ (List.mem_of_getElem? (i := 26) rfl))) (notFace_of_selects (args := #[]) (mvT hZ (hw _ (List.mem_of_getElem? (i := 28) rfl)))) (mvT hZ (hw _ (List.mem_of_getElem? (i := 28) rfl))) (mvT hZ (hw _ (List.mem_of_getElem? (i := 27) rfl))) (by decide) (backOf (W := 0) (rm5 l Z a0 hw [] r1 rq mm T13.heap n0 Zc Fm13) hZ (hw _ (List.mem_of_getElem? (i := 29) rfl)) (hw _ (List.mem_of_getElem? (i := 7) rfl)) (by decide) (by decide)) q14a q14c (g := (mkF m 120 #[.val (.int p1), .val (.int p2), .val (.int p3), .val (.long q4), .second, .val (.int p5), .val (.int mm), .val (.int ((1 : Int32) + ((p1 &&& (2147483647 : Int32)) % mm))), .val (.int (own_maxI (1 : Int32) (p3 &&& (2147483647 : Int32)))), .val (.long rq), .second, .val (.int (p5 &&& (3 : Int32))), .val (.ref r1), .unset, .unset] [(.long rq), (.ref r1)])) rfl (by rw [hml]; rfl) (Steps.refl _) (argsL := [(.long rq)]) (rest := []) (lenOf pd_5 rfl) rfl (by show 2 * 0 + _ ≤ _; exact Nat.le_of_eq rfl) (hb hby at_120) (fun _ _ => ⟨rfl, rfl, (by decide : 1 + 0 ≤ _), (by decide : 3 + 0 ≤ _)⟩)
      dsimp only [Pt.U, Pt.locs, Pt.cells, Pt.slots] at X14 l14 y14 z14 st14 hQ14
      subst l14 y14 z14
      obtain ⟨rfl, N14q, e14⟩ := hQ14
      have N14 := Fr.app N13 N14q
      refine Goes.step (S' := T14.setTop (mkF m 123 #[.val (.int p1), .val (.int p2), .val (.int p3), .val (.long q4), .second, .val (.int p5), .val (.int mm), .val (.int ((1 : Int32) + ((p1 &&& (2147483647 : Int32)) % mm))), .val (.int (own_maxI (1 : Int32) (p3 &&& (2147483647 : Int32)))), .val (.long rq), .second, .val (.int (p5 &&& (3 : Int32))), .val (.ref r1), .unset, .unset] [(.int (own_dur rq mm))])) (fun t k => st14.trans k) ?_
      refine Goes.step (S' := T14.setTop (mkF m 125 #[.val (.int p1), .val (.int p2), .val (.int p3), .val (.long q4), .second, .val (.int p5), .val (.int mm), .val (.int ((1 : Int32) + ((p1 &&& (2147483647 : Int32)) % mm))), .val (.int (own_maxI (1 : Int32) (p3 &&& (2147483647 : Int32)))), .val (.long rq), .second, .val (.int (p5 &&& (3 : Int32))), .val (.ref r1), .val (.int (own_dur rq mm)), .unset] [])) (fun t k => XS.istore X14.here hx rfl (hb hby at_123) rfl (l' := #[.val (.int p1), .val (.int p2), .val (.int p3), .val (.long q4), .second, .val (.int p5), .val (.int mm), .val (.int ((1 : Int32) + ((p1 &&& (2147483647 : Int32)) % mm))), .val (.int (own_maxI (1 : Int32) (p3 &&& (2147483647 : Int32)))), .val (.long rq), .second, .val (.int (p5 &&& (3 : Int32))), .val (.ref r1), .val (.int (own_dur rq mm)), .unset]) rfl k) ?_
      refine Goes.step (S' := T14.setTop (mkF m 127 #[.val (.int p1), .val (.int p2), .val (.int p3), .val (.long q4), .second, .val (.int p5), .val (.int mm), .val (.int ((1 : Int32) + ((p1 &&& (2147483647 : Int32)) % mm))), .val (.int (own_maxI (1 : Int32) (p3 &&& (2147483647 : Int32)))), .val (.long rq), .second, .val (.int (p5 &&& (3 : Int32))), .val (.ref r1), .val (.int (own_dur rq mm)), .unset] [(.long rq)])) (fun t k => XS.lload X14.here hx rfl (hb hby at_125) rfl k) ?_
      refine Goes.step (S' := T14.setTop (mkF m 128 #[.val (.int p1), .val (.int p2), .val (.int p3), .val (.long q4), .second, .val (.int p5), .val (.int mm), .val (.int ((1 : Int32) + ((p1 &&& (2147483647 : Int32)) % mm))), .val (.int (own_maxI (1 : Int32) (p3 &&& (2147483647 : Int32)))), .val (.long rq), .second, .val (.int (p5 &&& (3 : Int32))), .val (.ref r1), .val (.int (own_dur rq mm)), .unset] [(.long (0 : Int64)), (.long rq)])) (fun t k => XS.lconst X14.here hx rfl (hb hby at_127) k) ?_
      refine Goes.step (S' := T14.setTop (mkF m 129 #[.val (.int p1), .val (.int p2), .val (.int p3), .val (.long q4), .second, .val (.int p5), .val (.int mm), .val (.int ((1 : Int32) + ((p1 &&& (2147483647 : Int32)) % mm))), .val (.int (own_maxI (1 : Int32) (p3 &&& (2147483647 : Int32)))), .val (.long rq), .second, .val (.int (p5 &&& (3 : Int32))), .val (.ref r1), .val (.int (own_dur rq mm)), .unset] [(.int (lcmpW rq (0 : Int64)))])) (fun t k => XS.lcmp X14.here hx rfl (hb hby at_128) rfl k) ?_
      by_cases c1 : rq = (0 : Int64)
      · refine Goes.step (S' := T14.setTop (mkF m 132 #[.val (.int p1), .val (.int p2), .val (.int p3), .val (.long q4), .second, .val (.int p5), .val (.int mm), .val (.int ((1 : Int32) + ((p1 &&& (2147483647 : Int32)) % mm))), .val (.int (own_maxI (1 : Int32) (p3 &&& (2147483647 : Int32)))), .val (.long rq), .second, .val (.int (p5 &&& (3 : Int32))), .val (.ref r1), .val (.int (own_dur rq mm)), .unset] [])) (fun t k => XS.ifNo X14.here hx rfl (hb hby at_129) rfl ((if0 _ _).trans (teq (own_lc0 c1)).2) k) ?_
        refine Goes.step (S' := T14.setTop (mkF m 134 #[.val (.int p1), .val (.int p2), .val (.int p3), .val (.long q4), .second, .val (.int p5), .val (.int mm), .val (.int ((1 : Int32) + ((p1 &&& (2147483647 : Int32)) % mm))), .val (.int (own_maxI (1 : Int32) (p3 &&& (2147483647 : Int32)))), .val (.long rq), .second, .val (.int (p5 &&& (3 : Int32))), .val (.ref r1), .val (.int (own_dur rq mm)), .unset] [(.int mm)])) (fun t k => XS.iload X14.here hx rfl (hb hby at_132) rfl k) ?_
        refine Goes.step (S' := T14.setTop (mkF m 136 #[.val (.int p1), .val (.int p2), .val (.int p3), .val (.long q4), .second, .val (.int p5), .val (.int mm), .val (.int ((1 : Int32) + ((p1 &&& (2147483647 : Int32)) % mm))), .val (.int (own_maxI (1 : Int32) (p3 &&& (2147483647 : Int32)))), .val (.long rq), .second, .val (.int (p5 &&& (3 : Int32))), .val (.ref r1), .val (.int (own_dur rq mm)), .val (.int mm)] [])) (fun t k => XS.istore X14.here hx rfl (hb hby at_134) rfl (l' := #[.val (.int p1), .val (.int p2), .val (.int p3), .val (.long q4), .second, .val (.int p5), .val (.int mm), .val (.int ((1 : Int32) + ((p1 &&& (2147483647 : Int32)) % mm))), .val (.int (own_maxI (1 : Int32) (p3 &&& (2147483647 : Int32)))), .val (.long rq), .second, .val (.int (p5 &&& (3 : Int32))), .val (.ref r1), .val (.int (own_dur rq mm)), .val (.int mm)]) rfl k) ?_
        refine Goes.step (S' := T14.setTop (mkF m 150 #[.val (.int p1), .val (.int p2), .val (.int p3), .val (.long q4), .second, .val (.int p5), .val (.int mm), .val (.int ((1 : Int32) + ((p1 &&& (2147483647 : Int32)) % mm))), .val (.int (own_maxI (1 : Int32) (p3 &&& (2147483647 : Int32)))), .val (.long rq), .second, .val (.int (p5 &&& (3 : Int32))), .val (.ref r1), .val (.int (own_dur rq mm)), .val (.int mm)] [])) (fun t k => XS.goto X14.here hx rfl (pc0 := 136) (pc' := 150) rfl (hb hby at_136) (by decide) (by decide) k) ?_
        refine Goes.step (S' := T14.setTop (mkF m 152 #[.val (.int p1), .val (.int p2), .val (.int p3), .val (.long q4), .second, .val (.int p5), .val (.int mm), .val (.int ((1 : Int32) + ((p1 &&& (2147483647 : Int32)) % mm))), .val (.int (own_maxI (1 : Int32) (p3 &&& (2147483647 : Int32)))), .val (.long rq), .second, .val (.int (p5 &&& (3 : Int32))), .val (.ref r1), .val (.int (own_dur rq mm)), .val (.int mm)] [(.int (own_dur rq mm))])) (fun t k => XS.iload X14.here hx rfl (hb hby at_150) rfl k) ?_
        refine Goes.step (S' := T14.setTop (mkF m 154 #[.val (.int p1), .val (.int p2), .val (.int p3), .val (.long q4), .second, .val (.int p5), .val (.int mm), .val (.int ((1 : Int32) + ((p1 &&& (2147483647 : Int32)) % mm))), .val (.int (own_maxI (1 : Int32) (p3 &&& (2147483647 : Int32)))), .val (.long rq), .second, .val (.int (p5 &&& (3 : Int32))), .val (.ref r1), .val (.int (own_dur rq mm)), .val (.int mm)] [(.int mm), (.int (own_dur rq mm))])) (fun t k => XS.iload X14.here hx rfl (hb hby at_152) rfl k) ?_
        refine Goes.step (S' := T14.setTop (mkF m 157 #[.val (.int p1), .val (.int p2), .val (.int p3), .val (.long q4), .second, .val (.int p5), .val (.int mm), .val (.int ((1 : Int32) + ((p1 &&& (2147483647 : Int32)) % mm))), .val (.int (own_maxI (1 : Int32) (p3 &&& (2147483647 : Int32)))), .val (.long rq), .second, .val (.int (p5 &&& (3 : Int32))), .val (.ref r1), .val (.int (own_dur rq mm)), .val (.int mm)] [])) (fun t k => XS.icmpNo X14.here hx rfl (hb hby at_154) rfl (teq (by rw [c1]; exact own_dur0)).2 k) ?_
        refine Goes.step (S' := T14.setTop (mkF m 159 #[.val (.int p1), .val (.int p2), .val (.int p3), .val (.long q4), .second, .val (.int p5), .val (.int mm), .val (.int ((1 : Int32) + ((p1 &&& (2147483647 : Int32)) % mm))), .val (.int (own_maxI (1 : Int32) (p3 &&& (2147483647 : Int32)))), .val (.long rq), .second, .val (.int (p5 &&& (3 : Int32))), .val (.ref r1), .val (.int (own_dur rq mm)), .val (.int mm)] [(.int (own_dur rq mm))])) (fun t k => XS.iload X14.here hx rfl (hb hby at_157) rfl k) ?_
        refine Goes.step (S' := T14.setTop (mkF m 160 #[.val (.int p1), .val (.int p2), .val (.int p3), .val (.long q4), .second, .val (.int p5), .val (.int mm), .val (.int ((1 : Int32) + ((p1 &&& (2147483647 : Int32)) % mm))), .val (.int (own_maxI (1 : Int32) (p3 &&& (2147483647 : Int32)))), .val (.long rq), .second, .val (.int (p5 &&& (3 : Int32))), .val (.ref r1), .val (.int (own_dur rq mm)), .val (.int mm)] [(.int (1 : Int32)), (.int (own_dur rq mm))])) (fun t k => XS.iconst X14.here hx rfl (hb hby at_159) k) ?_
        refine Goes.step (S' := T14.setTop (mkF m 163 #[.val (.int p1), .val (.int p2), .val (.int p3), .val (.long q4), .second, .val (.int p5), .val (.int mm), .val (.int ((1 : Int32) + ((p1 &&& (2147483647 : Int32)) % mm))), .val (.int (own_maxI (1 : Int32) (p3 &&& (2147483647 : Int32)))), .val (.long rq), .second, .val (.int (p5 &&& (3 : Int32))), .val (.ref r1), .val (.int (own_dur rq mm)), .val (.int mm)] [])) (fun t k => XS.icmpNo X14.here hx rfl (hb hby at_160) rfl (flt (own_dur_lo hm hq)).1 k) ?_
        refine Goes.step (S' := T14.setTop (mkF m 165 #[.val (.int p1), .val (.int p2), .val (.int p3), .val (.long q4), .second, .val (.int p5), .val (.int mm), .val (.int ((1 : Int32) + ((p1 &&& (2147483647 : Int32)) % mm))), .val (.int (own_maxI (1 : Int32) (p3 &&& (2147483647 : Int32)))), .val (.long rq), .second, .val (.int (p5 &&& (3 : Int32))), .val (.ref r1), .val (.int (own_dur rq mm)), .val (.int mm)] [(.int (own_dur rq mm))])) (fun t k => XS.iload X14.here hx rfl (hb hby at_163) rfl k) ?_
        refine Goes.step (S' := T14.setTop (mkF m 167 #[.val (.int p1), .val (.int p2), .val (.int p3), .val (.long q4), .second, .val (.int p5), .val (.int mm), .val (.int ((1 : Int32) + ((p1 &&& (2147483647 : Int32)) % mm))), .val (.int (own_maxI (1 : Int32) (p3 &&& (2147483647 : Int32)))), .val (.long rq), .second, .val (.int (p5 &&& (3 : Int32))), .val (.ref r1), .val (.int (own_dur rq mm)), .val (.int mm)] [(.int mm), (.int (own_dur rq mm))])) (fun t k => XS.iload X14.here hx rfl (hb hby at_165) rfl k) ?_
        refine Goes.step (S' := T14.setTop (mkF m 170 #[.val (.int p1), .val (.int p2), .val (.int p3), .val (.long q4), .second, .val (.int p5), .val (.int mm), .val (.int ((1 : Int32) + ((p1 &&& (2147483647 : Int32)) % mm))), .val (.int (own_maxI (1 : Int32) (p3 &&& (2147483647 : Int32)))), .val (.long rq), .second, .val (.int (p5 &&& (3 : Int32))), .val (.ref r1), .val (.int (own_dur rq mm)), .val (.int mm)] [])) (fun t k => XS.icmpNo X14.here hx rfl (hb hby at_167) rfl (flt (own_dur_hi hm hq)).2.2.1 k) ?_
        refine Goes.step (S' := T14.setTop (mkF m 171 #[.val (.int p1), .val (.int p2), .val (.int p3), .val (.long q4), .second, .val (.int p5), .val (.int mm), .val (.int ((1 : Int32) + ((p1 &&& (2147483647 : Int32)) % mm))), .val (.int (own_maxI (1 : Int32) (p3 &&& (2147483647 : Int32)))), .val (.long rq), .second, .val (.int (p5 &&& (3 : Int32))), .val (.ref r1), .val (.int (own_dur rq mm)), .val (.int mm)] [(.int (1 : Int32))])) (fun t k => XS.iconst X14.here hx rfl (hb hby at_170) k) ?_
        refine Goes.step (S' := T14.setTop (mkF m 175 #[.val (.int p1), .val (.int p2), .val (.int p3), .val (.long q4), .second, .val (.int p5), .val (.int mm), .val (.int ((1 : Int32) + ((p1 &&& (2147483647 : Int32)) % mm))), .val (.int (own_maxI (1 : Int32) (p3 &&& (2147483647 : Int32)))), .val (.long rq), .second, .val (.int (p5 &&& (3 : Int32))), .val (.ref r1), .val (.int (own_dur rq mm)), .val (.int mm)] [(.int (1 : Int32))])) (fun t k => XS.goto X14.here hx rfl (pc0 := 171) (pc' := 175) rfl (hb hby at_171) (by decide) (by decide) k) ?_
        obtain ⟨fs, hr, hrun, hended, hW, hsame⟩ := X14.leave (v := some (.int (1 : Int32))) (fun h => by rw [Bd.returns] at h; cases h)
        exact ⟨_, _, retN X14 hx (t := .boolean) Bd.returns (by simp) (hb hby at_175) hr, hrun, hended, _, _, rfl, ⟨rfl, N14⟩, ⟨_, rfl⟩, hW, hsame.mono (by decide) (by decide)⟩
      · refine Goes.step (S' := T14.setTop (mkF m 139 #[.val (.int p1), .val (.int p2), .val (.int p3), .val (.long q4), .second, .val (.int p5), .val (.int mm), .val (.int ((1 : Int32) + ((p1 &&& (2147483647 : Int32)) % mm))), .val (.int (own_maxI (1 : Int32) (p3 &&& (2147483647 : Int32)))), .val (.long rq), .second, .val (.int (p5 &&& (3 : Int32))), .val (.ref r1), .val (.int (own_dur rq mm)), .unset] [])) (fun t k => XS.ifYes X14.here hx rfl (pc0 := 129) (pc' := 139) rfl (hb hby at_129) rfl ((if0 _ _).trans (feq (own_lcne c1)).2) (by decide) (by decide) k) ?_
        refine Goes.step (S' := T14.setTop (mkF m 141 #[.val (.int p1), .val (.int p2), .val (.int p3), .val (.long q4), .second, .val (.int p5), .val (.int mm), .val (.int ((1 : Int32) + ((p1 &&& (2147483647 : Int32)) % mm))), .val (.int (own_maxI (1 : Int32) (p3 &&& (2147483647 : Int32)))), .val (.long rq), .second, .val (.int (p5 &&& (3 : Int32))), .val (.ref r1), .val (.int (own_dur rq mm)), .unset] [(.long rq)])) (fun t k => XS.lload X14.here hx rfl (hb hby at_139) rfl k) ?_
        refine Goes.step (S' := T14.setTop (mkF m 143 #[.val (.int p1), .val (.int p2), .val (.int p3), .val (.long q4), .second, .val (.int p5), .val (.int mm), .val (.int ((1 : Int32) + ((p1 &&& (2147483647 : Int32)) % mm))), .val (.int (own_maxI (1 : Int32) (p3 &&& (2147483647 : Int32)))), .val (.long rq), .second, .val (.int (p5 &&& (3 : Int32))), .val (.ref r1), .val (.int (own_dur rq mm)), .unset] [(.int mm), (.long rq)])) (fun t k => XS.iload X14.here hx rfl (hb hby at_141) rfl k) ?_
        refine Goes.step (S' := T14.setTop (mkF m 144 #[.val (.int p1), .val (.int p2), .val (.int p3), .val (.long q4), .second, .val (.int p5), .val (.int mm), .val (.int ((1 : Int32) + ((p1 &&& (2147483647 : Int32)) % mm))), .val (.int (own_maxI (1 : Int32) (p3 &&& (2147483647 : Int32)))), .val (.long rq), .second, .val (.int (p5 &&& (3 : Int32))), .val (.ref r1), .val (.int (own_dur rq mm)), .unset] [(.long (mm.toInt64)), (.long rq)])) (fun t k => XS.i2l X14.here hx rfl (hb hby at_143) rfl k) ?_
        obtain ⟨_, _, ⟨T15, L15, k15, n15⟩, -, X15, ⟨Lc15, hQ15, l15, y15, z15⟩, st15⟩ := Jvm.LawKit.callS X14 hx (y := (⟨"java/lang/Math", "min", "(JJ)J"⟩ : MethodName)) hown (mvT hZ (hw _ (List.mem_of_getElem? (i := 31) rfl))) (mvT hZ (hw _ (List.mem_of_getElem? (i := 32) rfl))) (mvT hZ (hw _ (List.mem_of_getElem? (i := 3) rfl))) (mvT hZ (hw _ (List.mem_of_getElem? (i := 33) rfl))) (by decide) (backOf (W := 0) (rm2 l Z a0 hw [] rq (mm.toInt64) T13.heap n0 Zc) hZ (hw _ (List.mem_of_getElem? (i := 33) rfl)) (hw _ (List.mem_of_getElem? (i := 3) rfl)) (by decide) (by decide)) (g := (mkF m 144 #[.val (.int p1), .val (.int p2), .val (.int p3), .val (.long q4), .second, .val (.int p5), .val (.int mm), .val (.int ((1 : Int32) + ((p1 &&& (2147483647 : Int32)) % mm))), .val (.int (own_maxI (1 : Int32) (p3 &&& (2147483647 : Int32)))), .val (.long rq), .second, .val (.int (p5 &&& (3 : Int32))), .val (.ref r1), .val (.int (own_dur rq mm)), .unset] [(.long (mm.toInt64)), (.long rq)])) rfl (by rw [hml]; rfl) (argsL := [(.long rq), (.long (mm.toInt64))]) (rest := []) (lenOf pd_2 rfl) rfl (by show 2 * 0 + _ ≤ _; exact Nat.le_of_eq rfl) (hb hby at_144) (fun _ _ => ⟨rfl, e14, (by decide : 1 + 0 ≤ _), (by decide : 3 + 0 ≤ _)⟩)
        dsimp only [Pt.U, Pt.locs, Pt.cells, Pt.slots] at X15 l15 y15 z15 st15 hQ15
        subst l15 y15 z15
        obtain ⟨rfl, N15q, e15⟩ := hQ15
        have N15 := Fr.app N14 N15q
        refine Goes.step (S' := T15.setTop (mkF m 147 #[.val (.int p1), .val (.int p2), .val (.int p3), .val (.long q4), .second, .val (.int p5), .val (.int mm), .val (.int ((1 : Int32) + ((p1 &&& (2147483647 : Int32)) % mm))), .val (.int (own_maxI (1 : Int32) (p3 &&& (2147483647 : Int32)))), .val (.long rq), .second, .val (.int (p5 &&& (3 : Int32))), .val (.ref r1), .val (.int (own_dur rq mm)), .unset] [(.long (own_min rq (mm.toInt64)))])) (fun t k => st15 t k) ?_
        refine Goes.step (S' := T15.setTop (mkF m 148 #[.val (.int p1), .val (.int p2), .val (.int p3), .val (.long q4), .second, .val (.int p5), .val (.int mm), .val (.int ((1 : Int32) + ((p1 &&& (2147483647 : Int32)) % mm))), .val (.int (own_maxI (1 : Int32) (p3 &&& (2147483647 : Int32)))), .val (.long rq), .second, .val (.int (p5 &&& (3 : Int32))), .val (.ref r1), .val (.int (own_dur rq mm)), .unset] [(.int ((own_min rq (mm.toInt64)).toInt32))])) (fun t k => XS.l2i X15.here hx rfl (hb hby at_147) rfl k) ?_
        refine Goes.step (S' := T15.setTop (mkF m 150 #[.val (.int p1), .val (.int p2), .val (.int p3), .val (.long q4), .second, .val (.int p5), .val (.int mm), .val (.int ((1 : Int32) + ((p1 &&& (2147483647 : Int32)) % mm))), .val (.int (own_maxI (1 : Int32) (p3 &&& (2147483647 : Int32)))), .val (.long rq), .second, .val (.int (p5 &&& (3 : Int32))), .val (.ref r1), .val (.int (own_dur rq mm)), .val (.int ((own_min rq (mm.toInt64)).toInt32))] [])) (fun t k => XS.istore X15.here hx rfl (hb hby at_148) rfl (l' := #[.val (.int p1), .val (.int p2), .val (.int p3), .val (.long q4), .second, .val (.int p5), .val (.int mm), .val (.int ((1 : Int32) + ((p1 &&& (2147483647 : Int32)) % mm))), .val (.int (own_maxI (1 : Int32) (p3 &&& (2147483647 : Int32)))), .val (.long rq), .second, .val (.int (p5 &&& (3 : Int32))), .val (.ref r1), .val (.int (own_dur rq mm)), .val (.int ((own_min rq (mm.toInt64)).toInt32))]) rfl k) ?_
        refine Goes.step (S' := T15.setTop (mkF m 152 #[.val (.int p1), .val (.int p2), .val (.int p3), .val (.long q4), .second, .val (.int p5), .val (.int mm), .val (.int ((1 : Int32) + ((p1 &&& (2147483647 : Int32)) % mm))), .val (.int (own_maxI (1 : Int32) (p3 &&& (2147483647 : Int32)))), .val (.long rq), .second, .val (.int (p5 &&& (3 : Int32))), .val (.ref r1), .val (.int (own_dur rq mm)), .val (.int ((own_min rq (mm.toInt64)).toInt32))] [(.int (own_dur rq mm))])) (fun t k => XS.iload X15.here hx rfl (hb hby at_150) rfl k) ?_
        refine Goes.step (S' := T15.setTop (mkF m 154 #[.val (.int p1), .val (.int p2), .val (.int p3), .val (.long q4), .second, .val (.int p5), .val (.int mm), .val (.int ((1 : Int32) + ((p1 &&& (2147483647 : Int32)) % mm))), .val (.int (own_maxI (1 : Int32) (p3 &&& (2147483647 : Int32)))), .val (.long rq), .second, .val (.int (p5 &&& (3 : Int32))), .val (.ref r1), .val (.int (own_dur rq mm)), .val (.int ((own_min rq (mm.toInt64)).toInt32))] [(.int ((own_min rq (mm.toInt64)).toInt32)), (.int (own_dur rq mm))])) (fun t k => XS.iload X15.here hx rfl (hb hby at_152) rfl k) ?_
        refine Goes.step (S' := T15.setTop (mkF m 157 #[.val (.int p1), .val (.int p2), .val (.int p3), .val (.long q4), .second, .val (.int p5), .val (.int mm), .val (.int ((1 : Int32) + ((p1 &&& (2147483647 : Int32)) % mm))), .val (.int (own_maxI (1 : Int32) (p3 &&& (2147483647 : Int32)))), .val (.long rq), .second, .val (.int (p5 &&& (3 : Int32))), .val (.ref r1), .val (.int (own_dur rq mm)), .val (.int ((own_min rq (mm.toInt64)).toInt32))] [])) (fun t k => XS.icmpNo X15.here hx rfl (hb hby at_154) rfl (teq (own_same c1)).2 k) ?_
        refine Goes.step (S' := T15.setTop (mkF m 159 #[.val (.int p1), .val (.int p2), .val (.int p3), .val (.long q4), .second, .val (.int p5), .val (.int mm), .val (.int ((1 : Int32) + ((p1 &&& (2147483647 : Int32)) % mm))), .val (.int (own_maxI (1 : Int32) (p3 &&& (2147483647 : Int32)))), .val (.long rq), .second, .val (.int (p5 &&& (3 : Int32))), .val (.ref r1), .val (.int (own_dur rq mm)), .val (.int ((own_min rq (mm.toInt64)).toInt32))] [(.int (own_dur rq mm))])) (fun t k => XS.iload X15.here hx rfl (hb hby at_157) rfl k) ?_
        refine Goes.step (S' := T15.setTop (mkF m 160 #[.val (.int p1), .val (.int p2), .val (.int p3), .val (.long q4), .second, .val (.int p5), .val (.int mm), .val (.int ((1 : Int32) + ((p1 &&& (2147483647 : Int32)) % mm))), .val (.int (own_maxI (1 : Int32) (p3 &&& (2147483647 : Int32)))), .val (.long rq), .second, .val (.int (p5 &&& (3 : Int32))), .val (.ref r1), .val (.int (own_dur rq mm)), .val (.int ((own_min rq (mm.toInt64)).toInt32))] [(.int (1 : Int32)), (.int (own_dur rq mm))])) (fun t k => XS.iconst X15.here hx rfl (hb hby at_159) k) ?_
        refine Goes.step (S' := T15.setTop (mkF m 163 #[.val (.int p1), .val (.int p2), .val (.int p3), .val (.long q4), .second, .val (.int p5), .val (.int mm), .val (.int ((1 : Int32) + ((p1 &&& (2147483647 : Int32)) % mm))), .val (.int (own_maxI (1 : Int32) (p3 &&& (2147483647 : Int32)))), .val (.long rq), .second, .val (.int (p5 &&& (3 : Int32))), .val (.ref r1), .val (.int (own_dur rq mm)), .val (.int ((own_min rq (mm.toInt64)).toInt32))] [])) (fun t k => XS.icmpNo X15.here hx rfl (hb hby at_160) rfl (flt (own_dur_lo hm hq)).1 k) ?_
        refine Goes.step (S' := T15.setTop (mkF m 165 #[.val (.int p1), .val (.int p2), .val (.int p3), .val (.long q4), .second, .val (.int p5), .val (.int mm), .val (.int ((1 : Int32) + ((p1 &&& (2147483647 : Int32)) % mm))), .val (.int (own_maxI (1 : Int32) (p3 &&& (2147483647 : Int32)))), .val (.long rq), .second, .val (.int (p5 &&& (3 : Int32))), .val (.ref r1), .val (.int (own_dur rq mm)), .val (.int ((own_min rq (mm.toInt64)).toInt32))] [(.int (own_dur rq mm))])) (fun t k => XS.iload X15.here hx rfl (hb hby at_163) rfl k) ?_
        refine Goes.step (S' := T15.setTop (mkF m 167 #[.val (.int p1), .val (.int p2), .val (.int p3), .val (.long q4), .second, .val (.int p5), .val (.int mm), .val (.int ((1 : Int32) + ((p1 &&& (2147483647 : Int32)) % mm))), .val (.int (own_maxI (1 : Int32) (p3 &&& (2147483647 : Int32)))), .val (.long rq), .second, .val (.int (p5 &&& (3 : Int32))), .val (.ref r1), .val (.int (own_dur rq mm)), .val (.int ((own_min rq (mm.toInt64)).toInt32))] [(.int mm), (.int (own_dur rq mm))])) (fun t k => XS.iload X15.here hx rfl (hb hby at_165) rfl k) ?_
        refine Goes.step (S' := T15.setTop (mkF m 170 #[.val (.int p1), .val (.int p2), .val (.int p3), .val (.long q4), .second, .val (.int p5), .val (.int mm), .val (.int ((1 : Int32) + ((p1 &&& (2147483647 : Int32)) % mm))), .val (.int (own_maxI (1 : Int32) (p3 &&& (2147483647 : Int32)))), .val (.long rq), .second, .val (.int (p5 &&& (3 : Int32))), .val (.ref r1), .val (.int (own_dur rq mm)), .val (.int ((own_min rq (mm.toInt64)).toInt32))] [])) (fun t k => XS.icmpNo X15.here hx rfl (hb hby at_167) rfl (flt (own_dur_hi hm hq)).2.2.1 k) ?_
        refine Goes.step (S' := T15.setTop (mkF m 171 #[.val (.int p1), .val (.int p2), .val (.int p3), .val (.long q4), .second, .val (.int p5), .val (.int mm), .val (.int ((1 : Int32) + ((p1 &&& (2147483647 : Int32)) % mm))), .val (.int (own_maxI (1 : Int32) (p3 &&& (2147483647 : Int32)))), .val (.long rq), .second, .val (.int (p5 &&& (3 : Int32))), .val (.ref r1), .val (.int (own_dur rq mm)), .val (.int ((own_min rq (mm.toInt64)).toInt32))] [(.int (1 : Int32))])) (fun t k => XS.iconst X15.here hx rfl (hb hby at_170) k) ?_
        refine Goes.step (S' := T15.setTop (mkF m 175 #[.val (.int p1), .val (.int p2), .val (.int p3), .val (.long q4), .second, .val (.int p5), .val (.int mm), .val (.int ((1 : Int32) + ((p1 &&& (2147483647 : Int32)) % mm))), .val (.int (own_maxI (1 : Int32) (p3 &&& (2147483647 : Int32)))), .val (.long rq), .second, .val (.int (p5 &&& (3 : Int32))), .val (.ref r1), .val (.int (own_dur rq mm)), .val (.int ((own_min rq (mm.toInt64)).toInt32))] [(.int (1 : Int32))])) (fun t k => XS.goto X15.here hx rfl (pc0 := 171) (pc' := 175) rfl (hb hby at_171) (by decide) (by decide) k) ?_
        obtain ⟨fs, hr, hrun, hended, hW, hsame⟩ := X15.leave (v := some (.int (1 : Int32))) (fun h => by rw [Bd.returns] at h; cases h)
        exact ⟨_, _, retN X15 hx (t := .boolean) Bd.returns (by simp) (hb hby at_175) hr, hrun, hended, _, _, rfl, ⟨rfl, N15⟩, ⟨_, rfl⟩, hW, hsame.mono (by decide) (by decide)⟩
    by_cases s0 : (p5 &&& (3 : Int32)) = (0 : Int32)
    · refine Goes.step (S' := T10.setTop (mkF m 46 #[.val (.int p1), .val (.int p2), .val (.int p3), .val (.long q4), .second, .val (.int p5), .val (.int mm), .val (.int ((1 : Int32) + ((p1 &&& (2147483647 : Int32)) % mm))), .val (.int (own_maxI (1 : Int32) (p3 &&& (2147483647 : Int32)))), .unset, .unset, .val (.int (p5 &&& (3 : Int32))), .unset, .unset, .unset] [])) (fun t k => XS.ifNo X10.here hx rfl (hb hby at_43) rfl ((if0 _ _).trans (teq s0).2) k) ?_
      refine Goes.step (S' := T10.setTop (mkF m 47 #[.val (.int p1), .val (.int p2), .val (.int p3), .val (.long q4), .second, .val (.int p5), .val (.int mm), .val (.int ((1 : Int32) + ((p1 &&& (2147483647 : Int32)) % mm))), .val (.int (own_maxI (1 : Int32) (p3 &&& (2147483647 : Int32)))), .unset, .unset, .val (.int (p5 &&& (3 : Int32))), .unset, .unset, .unset] [(.long (0 : Int64))])) (fun t k => XS.lconst X10.here hx rfl (hb hby at_46) k) ?_
      refine Goes.step (S' := T10.setTop (mkF m 49 #[.val (.int p1), .val (.int p2), .val (.int p3), .val (.long q4), .second, .val (.int p5), .val (.int mm), .val (.int ((1 : Int32) + ((p1 &&& (2147483647 : Int32)) % mm))), .val (.int (own_maxI (1 : Int32) (p3 &&& (2147483647 : Int32)))), .val (.long (0 : Int64)), .second, .val (.int (p5 &&& (3 : Int32))), .unset, .unset, .unset] [])) (fun t k => XS.lstore X10.here hx rfl (hb hby at_47) rfl (l' := #[.val (.int p1), .val (.int p2), .val (.int p3), .val (.long q4), .second, .val (.int p5), .val (.int mm), .val (.int ((1 : Int32) + ((p1 &&& (2147483647 : Int32)) % mm))), .val (.int (own_maxI (1 : Int32) (p3 &&& (2147483647 : Int32)))), .val (.long (0 : Int64)), .second, .val (.int (p5 &&& (3 : Int32))), .unset, .unset, .unset]) rfl k) ?_
      refine Goes.step (S' := T10.setTop (mkF m 101 #[.val (.int p1), .val (.int p2), .val (.int p3), .val (.long q4), .second, .val (.int p5), .val (.int mm), .val (.int ((1 : Int32) + ((p1 &&& (2147483647 : Int32)) % mm))), .val (.int (own_maxI (1 : Int32) (p3 &&& (2147483647 : Int32)))), .val (.long (0 : Int64)), .second, .val (.int (p5 &&& (3 : Int32))), .unset, .unset, .unset] [])) (fun t k => XS.goto X10.here hx rfl (pc0 := 49) (pc' := 101) rfl (hb hby at_49) (by decide) (by decide) k) ?_
      exact K101 (0 : Int64) (by decide)
    · refine Goes.step (S' := T10.setTop (mkF m 52 #[.val (.int p1), .val (.int p2), .val (.int p3), .val (.long q4), .second, .val (.int p5), .val (.int mm), .val (.int ((1 : Int32) + ((p1 &&& (2147483647 : Int32)) % mm))), .val (.int (own_maxI (1 : Int32) (p3 &&& (2147483647 : Int32)))), .unset, .unset, .val (.int (p5 &&& (3 : Int32))), .unset, .unset, .unset] [])) (fun t k => XS.ifYes X10.here hx rfl (pc0 := 43) (pc' := 52) rfl (hb hby at_43) rfl ((if0 _ _).trans (feq s0).2) (by decide) (by decide) k) ?_
      refine Goes.step (S' := T10.setTop (mkF m 54 #[.val (.int p1), .val (.int p2), .val (.int p3), .val (.long q4), .second, .val (.int p5), .val (.int mm), .val (.int ((1 : Int32) + ((p1 &&& (2147483647 : Int32)) % mm))), .val (.int (own_maxI (1 : Int32) (p3 &&& (2147483647 : Int32)))), .unset, .unset, .val (.int (p5 &&& (3 : Int32))), .unset, .unset, .unset] [(.int (p5 &&& (3 : Int32)))])) (fun t k => XS.iload X10.here hx rfl (hb hby at_52) rfl k) ?_
      refine Goes.step (S' := T10.setTop (mkF m 55 #[.val (.int p1), .val (.int p2), .val (.int p3), .val (.long q4), .second, .val (.int p5), .val (.int mm), .val (.int ((1 : Int32) + ((p1 &&& (2147483647 : Int32)) % mm))), .val (.int (own_maxI (1 : Int32) (p3 &&& (2147483647 : Int32)))), .unset, .unset, .val (.int (p5 &&& (3 : Int32))), .unset, .unset, .unset] [(.int (1 : Int32)), (.int (p5 &&& (3 : Int32)))])) (fun t k => XS.iconst X10.here hx rfl (hb hby at_54) k) ?_
      by_cases s1 : (p5 &&& (3 : Int32)) = (1 : Int32)
      · refine Goes.step (S' := T10.setTop (mkF m 58 #[.val (.int p1), .val (.int p2), .val (.int p3), .val (.long q4), .second, .val (.int p5), .val (.int mm), .val (.int ((1 : Int32) + ((p1 &&& (2147483647 : Int32)) % mm))), .val (.int (own_maxI (1 : Int32) (p3 &&& (2147483647 : Int32)))), .unset, .unset, .val (.int (p5 &&& (3 : Int32))), .unset, .unset, .unset] [])) (fun t k => XS.icmpNo X10.here hx rfl (hb hby at_55) rfl (teq s1).2 k) ?_
        refine Goes.step (S' := T10.setTop (mkF m 59 #[.val (.int p1), .val (.int p2), .val (.int p3), .val (.long q4), .second, .val (.int p5), .val (.int mm), .val (.int ((1 : Int32) + ((p1 &&& (2147483647 : Int32)) % mm))), .val (.int (own_maxI (1 : Int32) (p3 &&& (2147483647 : Int32)))), .unset, .unset, .val (.int (p5 &&& (3 : Int32))), .unset, .unset, .unset] [(.long q4)])) (fun t k => XS.lloadN X10.here hx rfl (hb hby at_58) rfl k) ?_
        refine Goes.step (S' := T10.setTop (mkF m 62 #[.val (.int p1), .val (.int p2), .val (.int p3), .val (.long q4), .second, .val (.int p5), .val (.int mm), .val (.int ((1 : Int32) + ((p1 &&& (2147483647 : Int32)) % mm))), .val (.int (own_maxI (1 : Int32) (p3 &&& (2147483647 : Int32)))), .unset, .unset, .val (.int (p5 &&& (3 : Int32))), .unset, .unset, .unset] [(.long (9223372036854775807 : Int64)), (.long q4)])) (fun t k => X10.ldc2Long hx hown (mvT hZ (hw _ (List.mem_of_getElem? (i := 34) rfl))) (g := (mkF m 59 #[.val (.int p1), .val (.int p2), .val (.int p3), .val (.long q4), .second, .val (.int p5), .val (.int mm), .val (.int ((1 : Int32) + ((p1 &&& (2147483647 : Int32)) % mm))), .val (.int (own_maxI (1 : Int32) (p3 &&& (2147483647 : Int32)))), .unset, .unset, .val (.int (p5 &&& (3 : Int32))), .unset, .unset, .unset] [(.long q4)])) rfl (hb hby at_59) _ k) ?_
        refine Goes.step (S' := T10.setTop (mkF m 63 #[.val (.int p1), .val (.int p2), .val (.int p3), .val (.long q4), .second, .val (.int p5), .val (.int mm), .val (.int ((1 : Int32) + ((p1 &&& (2147483647 : Int32)) % mm))), .val (.int (own_maxI (1 : Int32) (p3 &&& (2147483647 : Int32)))), .unset, .unset, .val (.int (p5 &&& (3 : Int32))), .unset, .unset, .unset] [(.long (q4 &&& (9223372036854775807 : Int64)))])) (fun t k => XS.land X10.here hx rfl (hb hby at_62) rfl k) ?_
        refine Goes.step (S' := T10.setTop (mkF m 65 #[.val (.int p1), .val (.int p2), .val (.int p3), .val (.long q4), .second, .val (.int p5), .val (.int mm), .val (.int ((1 : Int32) + ((p1 &&& (2147483647 : Int32)) % mm))), .val (.int (own_maxI (1 : Int32) (p3 &&& (2147483647 : Int32)))), .val (.long (q4 &&& (9223372036854775807 : Int64))), .second, .val (.int (p5 &&& (3 : Int32))), .unset, .unset, .unset] [])) (fun t k => XS.lstore X10.here hx rfl (hb hby at_63) rfl (l' := #[.val (.int p1), .val (.int p2), .val (.int p3), .val (.long q4), .second, .val (.int p5), .val (.int mm), .val (.int ((1 : Int32) + ((p1 &&& (2147483647 : Int32)) % mm))), .val (.int (own_maxI (1 : Int32) (p3 &&& (2147483647 : Int32)))), .val (.long (q4 &&& (9223372036854775807 : Int64))), .second, .val (.int (p5 &&& (3 : Int32))), .unset, .unset, .unset]) rfl k) ?_
        refine Goes.step (S' := T10.setTop (mkF m 101 #[.val (.int p1), .val (.int p2), .val (.int p3), .val (.long q4), .second, .val (.int p5), .val (.int mm), .val (.int ((1 : Int32) + ((p1 &&& (2147483647 : Int32)) % mm))), .val (.int (own_maxI (1 : Int32) (p3 &&& (2147483647 : Int32)))), .val (.long (q4 &&& (9223372036854775807 : Int64))), .second, .val (.int (p5 &&& (3 : Int32))), .unset, .unset, .unset] [])) (fun t k => XS.goto X10.here hx rfl (pc0 := 65) (pc' := 101) rfl (hb hby at_65) (by decide) (by decide) k) ?_
        exact K101 _ (own_q1 q4)
      · refine Goes.step (S' := T10.setTop (mkF m 68 #[.val (.int p1), .val (.int p2), .val (.int p3), .val (.long q4), .second, .val (.int p5), .val (.int mm), .val (.int ((1 : Int32) + ((p1 &&& (2147483647 : Int32)) % mm))), .val (.int (own_maxI (1 : Int32) (p3 &&& (2147483647 : Int32)))), .unset, .unset, .val (.int (p5 &&& (3 : Int32))), .unset, .unset, .unset] [])) (fun t k => XS.icmpYes X10.here hx rfl (pc0 := 55) (pc' := 68) rfl (hb hby at_55) rfl (feq s1).2 (by decide) (by decide) k) ?_
        refine Goes.step (S' := T10.setTop (mkF m 70 #[.val (.int p1), .val (.int p2), .val (.int p3), .val (.long q4), .second, .val (.int p5), .val (.int mm), .val (.int ((1 : Int32) + ((p1 &&& (2147483647 : Int32)) % mm))), .val (.int (own_maxI (1 : Int32) (p3 &&& (2147483647 : Int32)))), .unset, .unset, .val (.int (p5 &&& (3 : Int32))), .unset, .unset, .unset] [(.int (p5 &&& (3 : Int32)))])) (fun t k => XS.iload X10.here hx rfl (hb hby at_68) rfl k) ?_
        refine Goes.step (S' := T10.setTop (mkF m 71 #[.val (.int p1), .val (.int p2), .val (.int p3), .val (.long q4), .second, .val (.int p5), .val (.int mm), .val (.int ((1 : Int32) + ((p1 &&& (2147483647 : Int32)) % mm))), .val (.int (own_maxI (1 : Int32) (p3 &&& (2147483647 : Int32)))), .unset, .unset, .val (.int (p5 &&& (3 : Int32))), .unset, .unset, .unset] [(.int (2 : Int32)), (.int (p5 &&& (3 : Int32)))])) (fun t k => XS.iconst X10.here hx rfl (hb hby at_70) k) ?_
        by_cases s2 : (p5 &&& (3 : Int32)) = (2 : Int32)
        · refine Goes.step (S' := T10.setTop (mkF m 74 #[.val (.int p1), .val (.int p2), .val (.int p3), .val (.long q4), .second, .val (.int p5), .val (.int mm), .val (.int ((1 : Int32) + ((p1 &&& (2147483647 : Int32)) % mm))), .val (.int (own_maxI (1 : Int32) (p3 &&& (2147483647 : Int32)))), .unset, .unset, .val (.int (p5 &&& (3 : Int32))), .unset, .unset, .unset] [])) (fun t k => XS.icmpNo X10.here hx rfl (hb hby at_71) rfl (teq s2).2 k) ?_
          refine Goes.step (S' := T10.setTop (mkF m 75 #[.val (.int p1), .val (.int p2), .val (.int p3), .val (.long q4), .second, .val (.int p5), .val (.int mm), .val (.int ((1 : Int32) + ((p1 &&& (2147483647 : Int32)) % mm))), .val (.int (own_maxI (1 : Int32) (p3 &&& (2147483647 : Int32)))), .unset, .unset, .val (.int (p5 &&& (3 : Int32))), .unset, .unset, .unset] [(.long q4)])) (fun t k => XS.lloadN X10.here hx rfl (hb hby at_74) rfl k) ?_
          refine Goes.step (S' := T10.setTop (mkF m 78 #[.val (.int p1), .val (.int p2), .val (.int p3), .val (.long q4), .second, .val (.int p5), .val (.int mm), .val (.int ((1 : Int32) + ((p1 &&& (2147483647 : Int32)) % mm))), .val (.int (own_maxI (1 : Int32) (p3 &&& (2147483647 : Int32)))), .unset, .unset, .val (.int (p5 &&& (3 : Int32))), .unset, .unset, .unset] [(.long (2147483647 : Int64)), (.long q4)])) (fun t k => X10.ldc2Long hx hown (mvT hZ (hw _ (List.mem_of_getElem? (i := 30) rfl))) (g := (mkF m 75 #[.val (.int p1), .val (.int p2), .val (.int p3), .val (.long q4), .second, .val (.int p5), .val (.int mm), .val (.int ((1 : Int32) + ((p1 &&& (2147483647 : Int32)) % mm))), .val (.int (own_maxI (1 : Int32) (p3 &&& (2147483647 : Int32)))), .unset, .unset, .val (.int (p5 &&& (3 : Int32))), .unset, .unset, .unset] [(.long q4)])) rfl (hb hby at_75) _ k) ?_
          refine Goes.step (S' := T10.setTop (mkF m 79 #[.val (.int p1), .val (.int p2), .val (.int p3), .val (.long q4), .second, .val (.int p5), .val (.int mm), .val (.int ((1 : Int32) + ((p1 &&& (2147483647 : Int32)) % mm))), .val (.int (own_maxI (1 : Int32) (p3 &&& (2147483647 : Int32)))), .unset, .unset, .val (.int (p5 &&& (3 : Int32))), .unset, .unset, .unset] [(.long (q4 &&& (2147483647 : Int64)))])) (fun t k => XS.land X10.here hx rfl (hb hby at_78) rfl k) ?_
          refine Goes.step (S' := T10.setTop (mkF m 81 #[.val (.int p1), .val (.int p2), .val (.int p3), .val (.long q4), .second, .val (.int p5), .val (.int mm), .val (.int ((1 : Int32) + ((p1 &&& (2147483647 : Int32)) % mm))), .val (.int (own_maxI (1 : Int32) (p3 &&& (2147483647 : Int32)))), .unset, .unset, .val (.int (p5 &&& (3 : Int32))), .unset, .unset, .unset] [(.int mm), (.long (q4 &&& (2147483647 : Int64)))])) (fun t k => XS.iload X10.here hx rfl (hb hby at_79) rfl k) ?_
          refine Goes.step (S' := T10.setTop (mkF m 82 #[.val (.int p1), .val (.int p2), .val (.int p3), .val (.long q4), .second, .val (.int p5), .val (.int mm), .val (.int ((1 : Int32) + ((p1 &&& (2147483647 : Int32)) % mm))), .val (.int (own_maxI (1 : Int32) (p3 &&& (2147483647 : Int32)))), .unset, .unset, .val (.int (p5 &&& (3 : Int32))), .unset, .unset, .unset] [(.long (mm.toInt64)), (.long (q4 &&& (2147483647 : Int64)))])) (fun t k => XS.i2l X10.here hx rfl (hb hby at_81) rfl k) ?_
          refine Goes.step (S' := T10.setTop (mkF m 83 #[.val (.int p1), .val (.int p2), .val (.int p3), .val (.long q4), .second, .val (.int p5), .val (.int mm), .val (.int ((1 : Int32) + ((p1 &&& (2147483647 : Int32)) % mm))), .val (.int (own_maxI (1 : Int32) (p3 &&& (2147483647 : Int32)))), .unset, .unset, .val (.int (p5 &&& (3 : Int32))), .unset, .unset, .unset] [(.long (1 : Int64)), (.long (mm.toInt64)), (.long (q4 &&& (2147483647 : Int64)))])) (fun t k => XS.lconst X10.here hx rfl (hb hby at_82) k) ?_
          refine Goes.step (S' := T10.setTop (mkF m 84 #[.val (.int p1), .val (.int p2), .val (.int p3), .val (.long q4), .second, .val (.int p5), .val (.int mm), .val (.int ((1 : Int32) + ((p1 &&& (2147483647 : Int32)) % mm))), .val (.int (own_maxI (1 : Int32) (p3 &&& (2147483647 : Int32)))), .unset, .unset, .val (.int (p5 &&& (3 : Int32))), .unset, .unset, .unset] [(.long ((mm.toInt64) + (1 : Int64))), (.long (q4 &&& (2147483647 : Int64)))])) (fun t k => XS.ladd X10.here hx rfl (hb hby at_83) rfl k) ?_
          refine Goes.step (S' := T10.setTop (mkF m 85 #[.val (.int p1), .val (.int p2), .val (.int p3), .val (.long q4), .second, .val (.int p5), .val (.int mm), .val (.int ((1 : Int32) + ((p1 &&& (2147483647 : Int32)) % mm))), .val (.int (own_maxI (1 : Int32) (p3 &&& (2147483647 : Int32)))), .unset, .unset, .val (.int (p5 &&& (3 : Int32))), .unset, .unset, .unset] [(.long ((q4 &&& (2147483647 : Int64)) - (q4 &&& (2147483647 : Int64)) / ((mm.toInt64) + (1 : Int64)) * ((mm.toInt64) + (1 : Int64))))])) (fun t k => XS.lrem X10.here hx rfl (hb hby at_84) rfl (own_m1nz hm) k) ?_
          refine Goes.step (S' := T10.setTop (mkF m 87 #[.val (.int p1), .val (.int p2), .val (.int p3), .val (.long q4), .second, .val (.int p5), .val (.int mm), .val (.int ((1 : Int32) + ((p1 &&& (2147483647 : Int32)) % mm))), .val (.int (own_maxI (1 : Int32) (p3 &&& (2147483647 : Int32)))), .val (.long ((q4 &&& (2147483647 : Int64)) - (q4 &&& (2147483647 : Int64)) / ((mm.toInt64) + (1 : Int64)) * ((mm.toInt64) + (1 : Int64)))), .second, .val (.int (p5 &&& (3 : Int32))), .unset, .unset, .unset] [])) (fun t k => XS.lstore X10.here hx rfl (hb hby at_85) rfl (l' := #[.val (.int p1), .val (.int p2), .val (.int p3), .val (.long q4), .second, .val (.int p5), .val (.int mm), .val (.int ((1 : Int32) + ((p1 &&& (2147483647 : Int32)) % mm))), .val (.int (own_maxI (1 : Int32) (p3 &&& (2147483647 : Int32)))), .val (.long ((q4 &&& (2147483647 : Int64)) - (q4 &&& (2147483647 : Int64)) / ((mm.toInt64) + (1 : Int64)) * ((mm.toInt64) + (1 : Int64)))), .second, .val (.int (p5 &&& (3 : Int32))), .unset, .unset, .unset]) rfl k) ?_
          refine Goes.step (S' := T10.setTop (mkF m 101 #[.val (.int p1), .val (.int p2), .val (.int p3), .val (.long q4), .second, .val (.int p5), .val (.int mm), .val (.int ((1 : Int32) + ((p1 &&& (2147483647 : Int32)) % mm))), .val (.int (own_maxI (1 : Int32) (p3 &&& (2147483647 : Int32)))), .val (.long ((q4 &&& (2147483647 : Int64)) - (q4 &&& (2147483647 : Int64)) / ((mm.toInt64) + (1 : Int64)) * ((mm.toInt64) + (1 : Int64)))), .second, .val (.int (p5 &&& (3 : Int32))), .unset, .unset, .unset] [])) (fun t k => XS.goto X10.here hx rfl (pc0 := 87) (pc' := 101) rfl (hb hby at_87) (by decide) (by decide) k) ?_
          exact K101 _ (own_q2 q4 hm)
        · refine Goes.step (S' := T10.setTop (mkF m 90 #[.val (.int p1), .val (.int p2), .val (.int p3), .val (.long q4), .second, .val (.int p5), .val (.int mm), .val (.int ((1 : Int32) + ((p1 &&& (2147483647 : Int32)) % mm))), .val (.int (own_maxI (1 : Int32) (p3 &&& (2147483647 : Int32)))), .unset, .unset, .val (.int (p5 &&& (3 : Int32))), .unset, .unset, .unset] [])) (fun t k => XS.icmpYes X10.here hx rfl (pc0 := 71) (pc' := 90) rfl (hb hby at_71) rfl (feq s2).2 (by decide) (by decide) k) ?_
          refine Goes.step (S' := T10.setTop (mkF m 92 #[.val (.int p1), .val (.int p2), .val (.int p3), .val (.long q4), .second, .val (.int p5), .val (.int mm), .val (.int ((1 : Int32) + ((p1 &&& (2147483647 : Int32)) % mm))), .val (.int (own_maxI (1 : Int32) (p3 &&& (2147483647 : Int32)))), .unset, .unset, .val (.int (p5 &&& (3 : Int32))), .unset, .unset, .unset] [(.int mm)])) (fun t k => XS.iload X10.here hx rfl (hb hby at_90) rfl k) ?_
          refine Goes.step (S' := T10.setTop (mkF m 93 #[.val (.int p1), .val (.int p2), .val (.int p3), .val (.long q4), .second, .val (.int p5), .val (.int mm), .val (.int ((1 : Int32) + ((p1 &&& (2147483647 : Int32)) % mm))), .val (.int (own_maxI (1 : Int32) (p3 &&& (2147483647 : Int32)))), .unset, .unset, .val (.int (p5 &&& (3 : Int32))), .unset, .unset, .unset] [(.long (mm.toInt64))])) (fun t k => XS.i2l X10.here hx rfl (hb hby at_92) rfl k) ?_
          refine Goes.step (S' := T10.setTop (mkF m 94 #[.val (.int p1), .val (.int p2), .val (.int p3), .val (.long q4), .second, .val (.int p5), .val (.int mm), .val (.int ((1 : Int32) + ((p1 &&& (2147483647 : Int32)) % mm))), .val (.int (own_maxI (1 : Int32) (p3 &&& (2147483647 : Int32)))), .unset, .unset, .val (.int (p5 &&& (3 : Int32))), .unset, .unset, .unset] [(.long q4), (.long (mm.toInt64))])) (fun t k => XS.lloadN X10.here hx rfl (hb hby at_93) rfl k) ?_
          refine Goes.step (S' := T10.setTop (mkF m 97 #[.val (.int p1), .val (.int p2), .val (.int p3), .val (.long q4), .second, .val (.int p5), .val (.int mm), .val (.int ((1 : Int32) + ((p1 &&& (2147483647 : Int32)) % mm))), .val (.int (own_maxI (1 : Int32) (p3 &&& (2147483647 : Int32)))), .unset, .unset, .val (.int (p5 &&& (3 : Int32))), .unset, .unset, .unset] [(.long (2147483647 : Int64)), (.long q4), (.long (mm.toInt64))])) (fun t k => X10.ldc2Long hx hown (mvT hZ (hw _ (List.mem_of_getElem? (i := 30) rfl))) (g := (mkF m 94 #[.val (.int p1), .val (.int p2), .val (.int p3), .val (.long q4), .second, .val (.int p5), .val (.int mm), .val (.int ((1 : Int32) + ((p1 &&& (2147483647 : Int32)) % mm))), .val (.int (own_maxI (1 : Int32) (p3 &&& (2147483647 : Int32)))), .unset, .unset, .val (.int (p5 &&& (3 : Int32))), .unset, .unset, .unset] [(.long q4), (.long (mm.toInt64))])) rfl (hb hby at_94) _ k) ?_
          refine Goes.step (S' := T10.setTop (mkF m 98 #[.val (.int p1), .val (.int p2), .val (.int p3), .val (.long q4), .second, .val (.int p5), .val (.int mm), .val (.int ((1 : Int32) + ((p1 &&& (2147483647 : Int32)) % mm))), .val (.int (own_maxI (1 : Int32) (p3 &&& (2147483647 : Int32)))), .unset, .unset, .val (.int (p5 &&& (3 : Int32))), .unset, .unset, .unset] [(.long (q4 &&& (2147483647 : Int64))), (.long (mm.toInt64))])) (fun t k => XS.land X10.here hx rfl (hb hby at_97) rfl k) ?_
          refine Goes.step (S' := T10.setTop (mkF m 99 #[.val (.int p1), .val (.int p2), .val (.int p3), .val (.long q4), .second, .val (.int p5), .val (.int mm), .val (.int ((1 : Int32) + ((p1 &&& (2147483647 : Int32)) % mm))), .val (.int (own_maxI (1 : Int32) (p3 &&& (2147483647 : Int32)))), .unset, .unset, .val (.int (p5 &&& (3 : Int32))), .unset, .unset, .unset] [(.long ((mm.toInt64) + (q4 &&& (2147483647 : Int64))))])) (fun t k => XS.ladd X10.here hx rfl (hb hby at_98) rfl k) ?_
          refine Goes.step (S' := T10.setTop (mkF m 101 #[.val (.int p1), .val (.int p2), .val (.int p3), .val (.long q4), .second, .val (.int p5), .val (.int mm), .val (.int ((1 : Int32) + ((p1 &&& (2147483647 : Int32)) % mm))), .val (.int (own_maxI (1 : Int32) (p3 &&& (2147483647 : Int32)))), .val (.long ((mm.toInt64) + (q4 &&& (2147483647 : Int64)))), .second, .val (.int (p5 &&& (3 : Int32))), .unset, .unset, .unset] [])) (fun t k => XS.lstore X10.here hx rfl (hb hby at_99) rfl (l' := #[.val (.int p1), .val (.int p2), .val (.int p3), .val (.long q4), .second, .val (.int p5), .val (.int mm), .val (.int ((1 : Int32) + ((p1 &&& (2147483647 : Int32)) % mm))), .val (.int (own_maxI (1 : Int32) (p3 &&& (2147483647 : Int32)))), .val (.long ((mm.toInt64) + (q4 &&& (2147483647 : Int64)))), .second, .val (.int (p5 &&& (3 : Int32))), .unset, .unset, .unset]) rfl k) ?_
          exact K101 _ (own_q3 q4 hm)
  by_cases m0 : (p2 &&& (2147483647 : Int32)) = (0 : Int32)
  · refine Goes.step (S' := s₁.setTop (mkF m 11 #[.val (.int p1), .val (.int p2), .val (.int p3), .val (.long q4), .second, .val (.int p5), .val (.int (p2 &&& (2147483647 : Int32))), .unset, .unset, .unset, .unset, .unset, .unset, .unset, .unset] [])) (fun t k => XS.ifNo X0.here hx rfl (hb hby at_8) rfl ((if0 _ _).trans (teq m0).2) k) ?_
    refine Goes.step (S' := s₁.setTop (mkF m 12 #[.val (.int p1), .val (.int p2), .val (.int p3), .val (.long q4), .second, .val (.int p5), .val (.int (p2 &&& (2147483647 : Int32))), .unset, .unset, .unset, .unset, .unset, .unset, .unset, .unset] [(.int (1 : Int32))])) (fun t k => XS.iconst X0.here hx rfl (hb hby at_11) k) ?_
    refine Goes.step (S' := s₁.setTop (mkF m 14 #[.val (.int p1), .val (.int p2), .val (.int p3), .val (.long q4), .second, .val (.int p5), .val (.int (1 : Int32)), .unset, .unset, .unset, .unset, .unset, .unset, .unset, .unset] [])) (fun t k => XS.istore X0.here hx rfl (hb hby at_12) rfl (l' := #[.val (.int p1), .val (.int p2), .val (.int p3), .val (.long q4), .second, .val (.int p5), .val (.int (1 : Int32)), .unset, .unset, .unset, .unset, .unset, .unset, .unset, .unset]) rfl k) ?_
    exact K14 (1 : Int32) (by decide)
  · refine Goes.step (S' := s₁.setTop (mkF m 14 #[.val (.int p1), .val (.int p2), .val (.int p3), .val (.long q4), .second, .val (.int p5), .val (.int (p2 &&& (2147483647 : Int32))), .unset, .unset, .unset, .unset, .unset, .unset, .unset, .unset] [])) (fun t k => XS.ifYes X0.here hx rfl (pc0 := 8) (pc' := 14) rfl (hb hby at_8) rfl ((if0 _ _).trans (feq m0).2) (by decide) (by decide) k) ?_
    exact K14 _ (own_mm m0)
set_option maxRecDepth 65536 in
set_option maxHeartbeats 40000000 in
theorem comes_1 {Post : Tables → Env → Array Value → State → Outcome → State → Prop} (hpost : ∀ tb e args s v u, (limb_1_1.after args s (.returned v) u = true ∧ limb_1_2.after args s (.returned v) u = true ∧ True) → FrameEnd s (.returned v) u (Jvm.fieldLocs frame_1_writes args s ++ Jvm.arrayLocs frame_1_arrays args s ++ Jvm.staticLocs frame_1_statics s) 16 128 → Post tb e args s (.returned v) u) :
    ArmFor flags0 classFile x code maxLocals ret World_1 tables_1 room_1 Calls_1 rest_1 Pre_1 Post := by
  intro l hfl _ _ p e ha hc hk s m args below hf hA hF happ hP
  obtain ⟨hcalls, hrest, hpre⟩ := hP
  obtain ⟨-, -, -, hnamed, -, -, -, hat⟩ := (Spec.applies_iff hf).mp happ
  obtain ⟨hg, hn⟩ := and_e (Cond.before_iff.mp (show (Jvm.Cond.and given_1 narrow_1).before args s = true from hpre))
  obtain ⟨h1, ha0⟩ := and_e hg
  obtain ⟨w0, w1, w2, w3, w4, rfl⟩ : ∃ w0 w1 w2 w3 w4 : Value, args = #[w0, w1, w2, w3, w4] := by
    have hs : args.size = 5 := by simpa [Cond.value, given_1] using h1
    obtain ⟨L⟩ := args
    match L, hs with
    | [w0, w1, w2, w3, w4], _ => exact ⟨w0, w1, w2, w3, w4, rfl⟩
  have hw := fun d (hd : d ∈ tables_1) => atoms_spec (ws := Jvm.Cond.code x code maxLocals ret :: tables_1) hat d (List.mem_cons_of_mem _ hd)
  have hfit : Fit s := fun {y c} hc i hi => by
    obtain ⟨ha, rfl⟩ := Array.getElem?_eq_some_iff.mp hc
    have q := List.all_eq_true.mp ((Array.all_eq_true_iff_forall_mem.mp hF) _ (Array.getElem_mem ha)) i (List.mem_range.mpr hi)
    simpa [Array.getElem?_eq_getElem hi] using q
  obtain ⟨hv0, ha1⟩ := and_e ha0
  obtain ⟨i0, ei0⟩ := is_v hv0
  obtain rfl : w0 = (.int i0) := Option.some.inj ei0
  obtain ⟨hv1, ha2⟩ := and_e ha1
  obtain ⟨i1, ei1⟩ := is_v hv1
  obtain rfl : w1 = (.int i1) := Option.some.inj ei1
  obtain ⟨hv2, ha3⟩ := and_e ha2
  obtain ⟨i2, ei2⟩ := is_v hv2
  obtain rfl : w2 = (.int i2) := Option.some.inj ei2
  obtain ⟨hv3, ha4⟩ := and_e ha3
  obtain ⟨i3, ei3⟩ := isL_v hv3
  obtain rfl : w3 = (.long i3) := Option.some.inj ei3
  obtain ⟨i4, ei4⟩ := is_v ha4
  obtain rfl : w4 = (.int i4) := Option.some.inj ei4
  obtain ⟨n, o, h1, h2, h3, _, L, rfl, ⟨rfl, N⟩, hq⟩ := rm0 l s _ hw tables_1 i0 i1 i2 i3 i4  s.heap s.heap.size (Nat.le_refl _)  p e ha hc hk s m _ below hf ((Spec.applies_iff_loose hf).mp happ).1 ⟨rfl, State.Warmed39.refl s, rfl⟩ trivial
  refine ⟨n, _, h1, h2, h3, hpost _ _ _ _ _ _ ⟨Cond.after_iff.mpr rfl, Cond.after_iff.mpr (eq_i res_at (Term.int_eval (1)) rfl), trivial⟩ ⟨hq.1, hq.2.1, (hq.2.2.sift fun y hy => Or.inr (N y hy)).mono (by decide) (by decide)⟩⟩
theorem main_1_1 : Claimed_1_1 := comes_1 fun _ _ _ _ _ _ h hF => ⟨h.1, hF⟩
theorem main_1_2 : Claimed_1_2 := comes_1 fun _ _ _ _ _ _ h hF => ⟨h.2.1, hF⟩
end Jvm.Pilot.@@N@@
namespace Jvm.Pilot.@@N@@
open Jvm Jvm.ClassFile Sem Op Lib Jvm.Free Jvm.Stand Jvm.Pilot.@@N@@.Jvm.D
/-! MADE BY PROGRAM (witnessworld.py) out of the Statement's table words and the real class files: 11 classes; the members and pool entries that the words name. The judged class is class 1, her method 1. -/
namespace start1
open Jvm.ClassFile
def u (s : String) : CpInfo := .utf8 (stringToUtf16 s)
/-- a pool by its gaps: so many unusable entries, then the entry; so many at the end -/
def gap : Nat → List CpInfo → List CpInfo
  | 0, r => r
  | n + 1, r => .unusable :: gap n r
def poolList (es : List (Nat × CpInfo)) (last : Nat) : List CpInfo := es.foldr (fun e r => gap e.1 (e.2 :: r)) (gap last [])
def pool (es : List (Nat × CpInfo)) (last : Nat) : Array CpInfo := ⟨poolList es last⟩
def fileOf (pool : Array CpInfo) (this : Nat) (attrs : Array Attribute := #[]) (ms : Array MethodInfo := #[]) (fl : Nat := 33) (sup : Nat := 0) (ifs : Array Nat := #[]) (fds : Array FieldInfo := #[]) : ClassFile where
  minorVersion := 0
  majorVersion := 65
  constantPool := pool
  accessFlags := fl
  thisClass := this
  superClass := sup
  interfaces := ifs
  fields := fds
  methods := ms
  attributes := attrs
def plain (name : String) (sup : Option ClassId) : Class where
  name := name
  kind := .ordinary
  loader := none
  accessFlags := 33
  super := sup
  interfaces := #[]
  cf := none
  fields := #[]
  methods := #[]
  instanceTypes := #[]
  staticTypes := #[]
  resolved := #[]
  callSites := []
  init := .initialized
  statics := none
  mirror := none

def pool0 : Array CpInfo := pool [(5, u "<init>"), (0, u "()V"), (1, .class_ 10), (1, u "java/lang/Object")] 113

def k0c0 : Code := { maxStack := 0, maxLocals := 1, code := object_method_1_code, exceptionTable := #[], attributes := #[] }
def k0m0 : Method := { name := "<init>", desc := "()V", sig := { parameters := [], returnType := none }, accessFlags := 1, code := some k0c0 }
/-- java/lang/Object -/
def k0 : Class := { plain "java/lang/Object" none with
  accessFlags := 33
  interfaces := #[]
  cf := some (fileOf pool0 8 #[] #[{ accessFlags := 1, nameIndex := 5, descriptorIndex := 6, attributes := #[] }] 33 0 #[] #[])
  fields := #[]
  methods := #[k0m0]
  instanceTypes := #[]
  staticTypes := #[]
  resolved := Array.replicate 124 none
  statics := none }

def pool1 : Array CpInfo := pool [(2, .class_ 4), (1, u "java/lang/Object"), (0, u "<init>"), (0, u "()V"), (0, .integer 2147483647), (0, .methodref 9 10), (0, .class_ 11), (0, .nameAndType 12 13), (0, u "java/lang/Math"), (0, u "max"), (0, u "(II)I"), (2, .long 9223372036854775807), (1, .long 2147483647), (1, .class_ 21), (0, u "com/example/sidereal/sidereal/engine/config/JobLimits"), (0, .methodref 20 23), (0, .nameAndType 5 24), (0, u "(III)V"), (0, .methodref 20 26), (0, .nameAndType 27 28), (0, u "duration"), (0, u "(J)I"), (0, .methodref 9 30), (0, .nameAndType 31 32), (0, u "min"), (0, u "(JJ)J"), (0, .class_ 34), (0, u "com/example/sidereal/sidereal/engine/config/JobLimitsDurationPinLaw"), (2, u "law"), (0, u "(IIIJI)Z")] 3

def k1m0 : Method := { name := "<init>", desc := "()V", sig := { parameters := [], returnType := none }, accessFlags := 1, code := none }
def k1c1 : Code := { maxStack := 6, maxLocals := 15, code := code, exceptionTable := #[], attributes := #[] }
def k1m1 : Method := { name := "law", desc := "(IIIJI)Z", sig := { parameters := [.int, .int, .int, .long, .int], returnType := some .boolean }, accessFlags := 9, code := some k1c1 }
/-- com/example/sidereal/sidereal/engine/config/JobLimitsDurationPinLaw -/
def k1 : Class := { plain "com/example/sidereal/sidereal/engine/config/JobLimitsDurationPinLaw" (some 0) with
  accessFlags := 49
  interfaces := #[]
  cf := some (fileOf pool1 33 #[] #[{ accessFlags := 1, nameIndex := 5, descriptorIndex := 6, attributes := #[] }, { accessFlags := 9, nameIndex := 37, descriptorIndex := 38, attributes := #[] }] 49 2 #[] #[])
  fields := #[]
  methods := #[k1m0, k1m1]
  instanceTypes := #[]
  staticTypes := #[]
  resolved := Array.replicate 42 none
  statics := none }

def pool2 : Array CpInfo := pool [(1, .class_ 2), (0, u "java/lang/Math"), (1, .class_ 6), (1, u "java/lang/Object"), (0, u "<init>"), (0, u "()V"), (89, .class_ 100), (1, u "java/lang/Math$RandomNumberGeneratorHolder"), (20, u "(JJ)J"), (50, u "negativeZeroFloatBits"), (0, u "J"), (2, u "negativeZeroDoubleBits"), (21, u "max"), (2, u "min"), (43, u "$assertionsDisabled"), (0, u "Z"), (88, u "(II)I"), (2, u "twoToTheDoubleScaleDown"), (0, u "D"), (4, u "twoToTheDoubleScaleUp"), (9, u "E"), (3, u "PI"), (2, u "TAU"), (2, u "DEGREES_TO_RADIANS"), (0, u "RADIANS_TO_DEGREES")] 94

def k2m0 : Method := { name := "<init>", desc := "()V", sig := { parameters := [], returnType := none }, accessFlags := 2, code := none }
def k2c1 : Code := { maxStack := 2, maxLocals := 2, code := jdk_29_method_65_code, exceptionTable := #[], attributes := #[] }
def k2m1 : Method := { name := "max", desc := "(II)I", sig := { parameters := [.int, .int], returnType := some .int }, accessFlags := 9, code := some k2c1 }
def k2c2 : Code := { maxStack := 4, maxLocals := 4, code := jdk_29_method_70_code, exceptionTable := #[], attributes := #[] }
def k2m2 : Method := { name := "min", desc := "(JJ)J", sig := { parameters := [.long, .long], returnType := some .long }, accessFlags := 9, code := some k2c2 }
/-- java/lang/Math -/
def k2 : Class := { plain "java/lang/Math" (some 0) with
  accessFlags := 49
  interfaces := #[]
  cf := some (fileOf pool2 1 #[.nestMembers #[98]] #[{ accessFlags := 2, nameIndex := 7, descriptorIndex := 8, attributes := #[] }, { accessFlags := 9, nameIndex := 198, descriptorIndex := 335, attributes := #[] }, { accessFlags := 9, nameIndex := 201, descriptorIndex := 121, attributes := #[] }] 49 4 #[] #[{ accessFlags := 25, nameIndex := 354, descriptorIndex := 339, attributes := #[] }, { accessFlags := 25, nameIndex := 358, descriptorIndex := 339, attributes := #[] }, { accessFlags := 25, nameIndex := 361, descriptorIndex := 339, attributes := #[] }, { accessFlags := 26, nameIndex := 364, descriptorIndex := 339, attributes := #[] }, { accessFlags := 26, nameIndex := 365, descriptorIndex := 339, attributes := #[] }, { accessFlags := 26, nameIndex := 172, descriptorIndex := 173, attributes := #[] }, { accessFlags := 26, nameIndex := 176, descriptorIndex := 173, attributes := #[] }, { accessFlags := 8, nameIndex := 344, descriptorIndex := 339, attributes := #[] }, { accessFlags := 8, nameIndex := 338, descriptorIndex := 339, attributes := #[] }, { accessFlags := 4120, nameIndex := 245, descriptorIndex := 246, attributes := #[] }])
  fields := #[{ name := "E", type := .double, accessFlags := 25, slot := 0, constantValue := 0 }, { name := "PI", type := .double, accessFlags := 25, slot := 1, constantValue := 0 }, { name := "TAU", type := .double, accessFlags := 25, slot := 2, constantValue := 0 }, { name := "DEGREES_TO_RADIANS", type := .double, accessFlags := 26, slot := 3, constantValue := 0 }, { name := "RADIANS_TO_DEGREES", type := .double, accessFlags := 26, slot := 4, constantValue := 0 }, { name := "negativeZeroFloatBits", type := .long, accessFlags := 26, slot := 5, constantValue := 0 }, { name := "negativeZeroDoubleBits", type := .long, accessFlags := 26, slot := 6, constantValue := 0 }, { name := "twoToTheDoubleScaleUp", type := .double, accessFlags := 8, slot := 7, constantValue := 0 }, { name := "twoToTheDoubleScaleDown", type := .double, accessFlags := 8, slot := 8, constantValue := 0 }, { name := "$assertionsDisabled", type := .boolean, accessFlags := 4120, slot := 9, constantValue := 0 }]
  methods := #[k2m0, k2m1, k2m2]
  instanceTypes := #[]
  staticTypes := #[.double, .double, .double, .double, .double, .long, .long, .double, .double, .boolean]
  resolved := Array.replicate 460 none
  statics := none }

def pool3 : Array CpInfo := pool [(1, .methodref 2 3), (0, .class_ 4), (0, .nameAndType 5 6), (0, u "java/lang/Object"), (0, u "<init>"), (0, u "()V"), (0, .class_ 8), (0, u "java/lang/Record")] 13

def k3c0 : Code := { maxStack := 1, maxLocals := 1, code := jdk_30_method_1_code, exceptionTable := #[], attributes := #[] }
def k3m0 : Method := { name := "<init>", desc := "()V", sig := { parameters := [], returnType := none }, accessFlags := 4, code := some k3c0 }
/-- java/lang/Record -/
def k3 : Class := { plain "java/lang/Record" (some 0) with
  accessFlags := 1057
  interfaces := #[]
  cf := some (fileOf pool3 7 #[] #[{ accessFlags := 4, nameIndex := 5, descriptorIndex := 6, attributes := #[] }] 1057 2 #[] #[])
  fields := #[]
  methods := #[k3m0]
  instanceTypes := #[]
  staticTypes := #[]
  resolved := Array.replicate 22 none
  statics := none }

def pool4 : Array CpInfo := pool [(1, .methodref 2 3), (0, .class_ 4), (0, .nameAndType 5 6), (0, u "java/lang/Record"), (0, u "<init>"), (0, u "()V"), (9, .fieldref 17 18), (0, .class_ 19), (0, .nameAndType 20 21), (0, u "com/example/sidereal/sidereal/engine/config/JobLimits"), (0, u "defaultDuration"), (0, u "I"), (0, .fieldref 17 23), (0, .nameAndType 24 21), (0, u "maxDuration"), (0, .fieldref 17 26), (0, .nameAndType 27 21), (0, u "retention"), (31, u "(III)V"), (2, u "DEFAULT"), (0, u "Lcom/example/sidereal/sidereal/engine/config/JobLimits;"), (4, u "duration"), (0, u "(J)I")] 36

def k4c0 : Code := { maxStack := 5, maxLocals := 4, code := prog_80_method_1_code, exceptionTable := #[], attributes := #[] }
def k4m0 : Method := { name := "<init>", desc := "(III)V", sig := { parameters := [.int, .int, .int], returnType := none }, accessFlags := 1, code := some k4c0 }
def k4c1 : Code := { maxStack := 4, maxLocals := 3, code := prog_80_method_2_code, exceptionTable := #[], attributes := #[] }
def k4m1 : Method := { name := "duration", desc := "(J)I", sig := { parameters := [.long], returnType := some .int }, accessFlags := 1, code := some k4c1 }
/-- com/example/sidereal/sidereal/engine/config/JobLimits -/
def k4 : Class := { plain "com/example/sidereal/sidereal/engine/config/JobLimits" (some 3) with
  accessFlags := 49
  interfaces := #[]
  cf := some (fileOf pool4 17 #[] #[{ accessFlags := 1, nameIndex := 5, descriptorIndex := 59, attributes := #[] }, { accessFlags := 1, nameIndex := 68, descriptorIndex := 69, attributes := #[] }] 49 2 #[] #[{ accessFlags := 18, nameIndex := 20, descriptorIndex := 21, attributes := #[] }, { accessFlags := 18, nameIndex := 24, descriptorIndex := 21, attributes := #[] }, { accessFlags := 18, nameIndex := 27, descriptorIndex := 21, attributes := #[] }, { accessFlags := 25, nameIndex := 62, descriptorIndex := 63, attributes := #[] }])
  fields := #[{ name := "defaultDuration", type := .int, accessFlags := 18, slot := 0, constantValue := 0 }, { name := "maxDuration", type := .int, accessFlags := 18, slot := 1, constantValue := 0 }, { name := "retention", type := .int, accessFlags := 18, slot := 2, constantValue := 0 }, { name := "DEFAULT", type := (.object "com/example/sidereal/sidereal/engine/config/JobLimits"), accessFlags := 25, slot := 0, constantValue := 0 }]
  methods := #[k4m0, k4m1]
  instanceTypes := #[.int, .int, .int]
  staticTypes := #[(.object "com/example/sidereal/sidereal/engine/config/JobLimits")]
  resolved := Array.replicate 106 none
  statics := none }

def pool5 : Array CpInfo := pool [(1, u "java/lang/Cloneable"), (0, .class_ 1), (0, u "java/lang/Object"), (0, .class_ 3)] 3

/-- java/lang/Cloneable -/
def k5 : Class := { plain "java/lang/Cloneable" (some 0) with
  accessFlags := 1537
  interfaces := #[]
  cf := some (fileOf pool5 2 #[] #[] 1537 4 #[] #[])
  fields := #[]
  methods := #[]
  instanceTypes := #[]
  staticTypes := #[]
  resolved := Array.replicate 8 none
  statics := none }

def pool6 : Array CpInfo := pool [(1, u "java/io/Serializable"), (0, .class_ 1), (0, u "java/lang/Object"), (0, .class_ 3)] 3

/-- java/io/Serializable -/
def k6 : Class := { plain "java/io/Serializable" (some 0) with
  accessFlags := 1537
  interfaces := #[]
  cf := some (fileOf pool6 2 #[] #[] 1537 4 #[] #[])
  fields := #[]
  methods := #[]
  instanceTypes := #[]
  staticTypes := #[]
  resolved := Array.replicate 8 none
  statics := none }

/-- the primitive byte -/
def k7 : Class := { plain "byte" none with kind := .primitive 'B', accessFlags := 0x411 }
/-- [B -/
def k8 : Class := { plain "[B" (some 0) with kind := .array 7 .byte, interfaces := #[5, 6], accessFlags := 1041 }

/-- the primitive int -/
def k9 : Class := { plain "int" none with kind := .primitive 'I', accessFlags := 0x411 }
/-- [I -/
def k10 : Class := { plain "[I" (some 0) with kind := .array 9 .int, interfaces := #[5, 6], accessFlags := 1041 }

def heap : Heap := #[]
def classes : Array Class := #[k0, k1, k2, k3, k4, k5, k6, k7, k8, k9, k10]
def interned : List (Array UInt16 × Addr) := []
def slotsUsed : Nat := 0
def theMethod : MethodId := ⟨1, 1⟩
def args0 : Array Value := #[.int 5, .int 100, .int 7, .long 50, .int 1]
def aboutOver (below : List Frame) : State where
  vm := { classes := classes, interned := interned.toArray }
  heap := heap
  slotsUsed := slotsUsed
  threads := #[{ frames := .invoking theMethod args0 :: below }]
def below0 : List Frame := [.native { method := ⟨0, 0⟩, args := #[] }]
def about1 : State := aboutOver below0
def p0 : Program := .bare "" "" ""
def e0 : Env := launch0.env 0 0 0
theorem w_frames : about1.frames = Frame.invoking theMethod args0 :: below0 := rfl
set_option maxRecDepth 65536 in
theorem w_args : argsFit about1.vm theMethod args0 = true := by decide +kernel
set_option maxRecDepth 65536 in
theorem w_heap : heapFits about1 = true := by decide +kernel
set_option maxRecDepth 65536 in
theorem w_runnable : about1.curStatus? = some .runnable := by decide +kernel
set_option maxRecDepth 65536 in
theorem w_alone : about1.alone = true := by decide +kernel
set_option maxRecDepth 65536 in
theorem w_named : about1.methodNamed? x = some theMethod := by decide +kernel
set_option maxRecDepth 65536 in
theorem w_hears : about1.hears theMethod below0 = true := by decide +kernel
set_option maxRecDepth 65536 in
theorem w_ripe : about1.ripe theMethod args0 below0 = true := by decide +kernel
theorem w_running : about1.status = .running := rfl
set_option maxRecDepth 65536 in
theorem w_room : about1.hasRoom e0.platform room_1 = true :=
  launch0.hasRoom_least _ room_1 (by decide +kernel) (by decide +kernel) (by decide +kernel) (by decide +kernel) (by decide +kernel) (by decide +kernel)
theorem allAtoms_all (ts : List Jvm.Cond) (a : Array Jvm.Value) (st : Jvm.State) : (allAtoms ts).before a st = ts.all (fun c => c.before a st) := by
  induction ts with
  | nil => rfl
  | cons c t ih =>
    show (Jvm.Cond.and c (allAtoms t)).before a st = _
    rw [Jvm.Cond.before_and, ih, List.all_cons]
def words1 : List Jvm.Cond := Jvm.Cond.code x code maxLocals ret :: tables_1
/-- a 'code' word, met by the world's own term for the bytes: nothing is compared byte by byte -/
theorem code_word {y : MethodName} {bytes : ByteArray} {mx : Nat} {rt : Option FieldType} {a : Array Value} {s : State} {m : MethodId} {meth : Method} {c : Code} (h1 : s.methodNamed? y = some m) (h2 : s.vm.method? m = some meth) (h3 : meth.code = some c) (h4 : c.code = bytes)
    (h5 : (c.maxLocals == mx && c.exceptionTable.isEmpty && decide (c.maxStack ≤ mostOperands) && decide (meth.sig.returnType = rt) && !meth.locks && decide (parseMethodDescriptor y.desc = some meth.sig)) = true) : (Jvm.Cond.code y bytes mx rt).before a s = true := by
  simp only [Bool.and_eq_true, beq_iff_eq, Bool.not_eq_true', decide_eq_true_eq] at h5
  obtain ⟨⟨⟨⟨⟨g1, g2⟩, g3⟩, g4⟩, g5⟩, g6⟩ := h5
  simp [Cond.before, Cond.holds, Cond.value, h1, h2, h3, h4, g1, g2, g3, g4, g5, g6]
def isCode : Jvm.Cond → Bool
  | .code _ _ _ _ => true
  | _ => false
theorem all_split {L : List Jvm.Cond} {P : Jvm.Cond → Bool} (h1 : L.all (fun c => isCode c || P c) = true) (h2 : ∀ c ∈ L.filter isCode, P c = true) : L.all P = true := by
  refine List.all_eq_true.mpr fun c hc => ?_
  have h := List.all_eq_true.mp h1 c hc
  rcases Bool.eq_false_or_eq_true (isCode c) with hi | hi
  · exact h2 c (List.mem_filter.mpr ⟨hc, hi⟩)
  · simpa [hi] using h
set_option maxRecDepth 65536 in
theorem w_c0 : (Jvm.Cond.code x code maxLocals ret).before args0 about1 = true := code_word (m := ⟨1, 1⟩) (meth := k1m1) (c := k1c1) (by decide +kernel) rfl rfl rfl (by decide +kernel)
set_option maxRecDepth 65536 in
theorem w_c1 : (Jvm.Cond.code ({ cls := "java/lang/Math", name := "max", desc := "(II)I" } : Jvm.MethodName) jdk_29_method_65_code (2 : Nat) (Option.some Jvm.ClassFile.FieldType.int)).before args0 about1 = true := code_word (m := ⟨2, 1⟩) (meth := k2m1) (c := k2c1) (by decide +kernel) rfl rfl rfl (by decide +kernel)
set_option maxRecDepth 65536 in
theorem w_c2 : (Jvm.Cond.code ({ cls := "com/example/sidereal/sidereal/engine/config/JobLimits", name := "<init>", desc := "(III)V" } : Jvm.MethodName) prog_80_method_1_code (4 : Nat) (Option.none : Option Jvm.ClassFile.FieldType)).before args0 about1 = true := code_word (m := ⟨4, 0⟩) (meth := k4m0) (c := k4c0) (by decide +kernel) rfl rfl rfl (by decide +kernel)
set_option maxRecDepth 65536 in
theorem w_c3 : (Jvm.Cond.code ({ cls := "java/lang/Record", name := "<init>", desc := "()V" } : Jvm.MethodName) jdk_30_method_1_code (1 : Nat) (Option.none : Option Jvm.ClassFile.FieldType)).before args0 about1 = true := code_word (m := ⟨3, 0⟩) (meth := k3m0) (c := k3c0) (by decide +kernel) rfl rfl rfl (by decide +kernel)
set_option maxRecDepth 65536 in
theorem w_c4 : (Jvm.Cond.code ({ cls := "java/lang/Object", name := "<init>", desc := "()V" } : Jvm.MethodName) object_method_1_code (1 : Nat) (Option.none : Option Jvm.ClassFile.FieldType)).before args0 about1 = true := code_word (m := ⟨0, 0⟩) (meth := k0m0) (c := k0c0) (by decide +kernel) rfl rfl rfl (by decide +kernel)
set_option maxRecDepth 65536 in
theorem w_c5 : (Jvm.Cond.code ({ cls := "com/example/sidereal/sidereal/engine/config/JobLimits", name := "duration", desc := "(J)I" } : Jvm.MethodName) prog_80_method_2_code (3 : Nat) (Option.some Jvm.ClassFile.FieldType.int)).before args0 about1 = true := code_word (m := ⟨4, 1⟩) (meth := k4m1) (c := k4c1) (by decide +kernel) rfl rfl rfl (by decide +kernel)
set_option maxRecDepth 65536 in
theorem w_c6 : (Jvm.Cond.code ({ cls := "java/lang/Math", name := "min", desc := "(JJ)J" } : Jvm.MethodName) jdk_29_method_70_code (4 : Nat) (Option.some Jvm.ClassFile.FieldType.long)).before args0 about1 = true := code_word (m := ⟨2, 2⟩) (meth := k2m2) (c := k2c2) (by decide +kernel) rfl rfl rfl (by decide +kernel)
def codes1 : List Jvm.Cond := [Jvm.Cond.code x code maxLocals ret, Jvm.Cond.code ({ cls := "java/lang/Math", name := "max", desc := "(II)I" } : Jvm.MethodName) jdk_29_method_65_code (2 : Nat) (Option.some Jvm.ClassFile.FieldType.int), Jvm.Cond.code ({ cls := "com/example/sidereal/sidereal/engine/config/JobLimits", name := "<init>", desc := "(III)V" } : Jvm.MethodName) prog_80_method_1_code (4 : Nat) (Option.none : Option Jvm.ClassFile.FieldType), Jvm.Cond.code ({ cls := "java/lang/Record", name := "<init>", desc := "()V" } : Jvm.MethodName) jdk_30_method_1_code (1 : Nat) (Option.none : Option Jvm.ClassFile.FieldType), Jvm.Cond.code ({ cls := "java/lang/Object", name := "<init>", desc := "()V" } : Jvm.MethodName) object_method_1_code (1 : Nat) (Option.none : Option Jvm.ClassFile.FieldType), Jvm.Cond.code ({ cls := "com/example/sidereal/sidereal/engine/config/JobLimits", name := "duration", desc := "(J)I" } : Jvm.MethodName) prog_80_method_2_code (3 : Nat) (Option.some Jvm.ClassFile.FieldType.int), Jvm.Cond.code ({ cls := "java/lang/Math", name := "min", desc := "(JJ)J" } : Jvm.MethodName) jdk_29_method_70_code (4 : Nat) (Option.some Jvm.ClassFile.FieldType.long)]
set_option maxRecDepth 65536 in
theorem codes_eq : words1.filter isCode = codes1 := rfl
theorem w_codes : ∀ c ∈ words1.filter isCode, c.before args0 about1 = true := by
  rw [codes_eq]
  intro c hc
  simp only [codes1, List.mem_cons, List.not_mem_nil, or_false] at hc
  rcases hc with rfl | rfl | rfl | rfl | rfl | rfl | rfl
  · exact w_c0
  · exact w_c1
  · exact w_c2
  · exact w_c3
  · exact w_c4
  · exact w_c5
  · exact w_c6
set_option maxRecDepth 65536 in
theorem w_t1 : (words1.take 24).all (fun c => isCode c || c.before args0 about1) = true := by decide +kernel
set_option maxRecDepth 65536 in
theorem w_t2 : (words1.drop 24).all (fun c => isCode c || c.before args0 about1) = true := by decide +kernel
theorem w_tables : (allAtoms (Jvm.Cond.code x code maxLocals ret :: tables_1)).before args0 about1 = true := by
  rw [allAtoms_all]
  show words1.all (fun c => c.before args0 about1) = true
  refine all_split ?_ w_codes
  rw [← List.take_append_drop 24 words1, List.all_append, w_t1, w_t2]
  rfl
set_option maxRecDepth 65536 in
theorem w_case : (Jvm.Cond.and given_1 narrow_1).before args0 about1 = true := by decide +kernel
theorem w_applies : (headSpec (Jvm.Cond.code x code maxLocals ret :: tables_1) room_1).applies x e0.platform about1 = true :=
  (Spec.applies_iff w_frames).mpr ⟨w_running, w_runnable, w_alone, w_named, w_hears, w_ripe, w_room, w_tables⟩
theorem atStart : AtStart classFile x code maxLocals ret World_1 tables_1 room_1 Calls_1 rest_1 Pre_1 launch0 p0 e0 about1 theMethod args0 below0 :=
  ⟨lists_1, trivial, launch0.admits_env _ _ _, launch0.least_env, fairChoices_fair.cas, fairChoices_fair.clock, w_frames, w_args, w_heap, w_applies, trivial, trivial, w_case⟩
end start1
theorem witness_1 : WitnessClaimed_1 := ⟨start1.p0, start1.e0, start1.about1, start1.theMethod, start1.args0, start1.below0, start1.atStart⟩
end Jvm.Pilot.@@N@@
