import JvmDerived
import JvmDerived.Pilot.@@N@@Statement
import JvmDerived.Pilot.@@N@@Code
set_option linter.unusedVariables false
set_option linter.unusedSimpArgs false
@@BLOCK:NumsL.lean.txt@@
namespace Jvm.RoadKit
open Sem ClassFile Op Lib Jvm.Stand Jvm.Free Jvm.LawKit
section New
variable {p : Program} {l : Launch} {e : Env} {R : Room} {s : State} {m : MethodId} {args : Array Value} {below : List Frame} {meth : Method} {c : Code} {T : State} {locs : List Loc} {cells slots : Nat}
theorem retI (X : Stand p l e R s m args below meth c T locs cells slots) (hx : p.tables.exec = Jvm.exec) {pc : Nat} {Ls : Array Slot} {z : Int32} {rest : List Value} (hret : meth.sig.returnType = some .int) (hd : decode c.code pc = .ok (.ireturn, 1)) {fs : List Frame}
    (hl : ∀ (f : JFrame) (acts : List Action), f.method = m → f.locked = none → f.entered = [] → (doReturn e (T.setTop f) acts (some (.int z))).1 = T.setFrames fs) : Steps p.tables e below (T.setTop (mkF m pc Ls (.int z :: rest))) (T.setFrames fs) := by
  have hm' : T.vm.method? m = some meth := X.method'
  have hn : narrow .int (.int z) = .int z := rfl
  show Steps p.tables e below (T.setTop { method := m, pc := pc, locals := Ls, stack := _ :: rest, locked := none }) _
  jvm_step X.here [X.here.top, hx, hd, hm', hret, hn]
  first | (intro acts; rw [hl _ acts rfl rfl rfl]) | rw [hl _ _ rfl rfl rfl]
  exact Steps.refl _
end New
end Jvm.RoadKit
namespace Jvm.Pilot.@@N@@
open Jvm Jvm.ClassFile Sem Op Lib Jvm.Free Jvm.Stand Jvm.LawKit Jvm.RoadKit Bundle Jvm.Pilot.@@N@@.Jvm.D
def own_min (a b : Int64) : Int64 := if b < a then b else a
def own_max (a b : Int64) : Int64 := if a < b then b else a
def own_pos (a : Int64) : Int64 := own_min (a &&& (9223372036854775807 : Int64)) (9223372036854775806 : Int64)
def own_f (x y z : Int64) : Int64 := own_min (own_min x y) z
def own_l (x y z : Int64) : Int64 := own_max (own_max x y) z
def own_m (x y z : Int64) : Int64 := own_max (own_min x y) (own_min (own_max x y) z)
theorem own_min_i (a b : Int64) : (own_min a b).toInt = if b.toInt < a.toInt then b.toInt else a.toInt := by
  unfold own_min
  by_cases h : b < a
  · have g := Int64.lt_iff_toInt_lt.mp h
    rw [if_pos h, if_pos g]
  · have g : ¬ b.toInt < a.toInt := fun q => h (Int64.lt_iff_toInt_lt.mpr q)
    rw [if_neg h, if_neg g]
theorem own_max_i (a b : Int64) : (own_max a b).toInt = if a.toInt < b.toInt then b.toInt else a.toInt := by
  unfold own_max
  by_cases h : a < b
  · have g := Int64.lt_iff_toInt_lt.mp h
    rw [if_pos h, if_pos g]
  · have g : ¬ a.toInt < b.toInt := fun q => h (Int64.lt_iff_toInt_lt.mpr q)
    rw [if_neg h, if_neg g]
theorem own_pos_i (a : Int64) : 0 ≤ (own_pos a).toInt ∧ (own_pos a).toInt ≤ 9223372036854775806 := by
  have e : (a &&& 9223372036854775807).toInt = a.toInt % 2 ^ 63 := Jvm.Kit.i64_mask a 9223372036854775807 (k := 63) (by decide) (by decide)
  have e2 : (9223372036854775806 : Int64).toInt = 9223372036854775806 := rfl
  unfold own_pos
  rw [own_min_i, e2, e]
  split <;> omega
theorem own_order (x y z : Int64) (hx : 0 ≤ x.toInt ∧ x.toInt ≤ 9223372036854775806) (hy : 0 ≤ y.toInt ∧ y.toInt ≤ 9223372036854775806) (hz : 0 ≤ z.toInt ∧ z.toInt ≤ 9223372036854775806) :
    0 ≤ (own_f x y z).toInt ∧ (own_f x y z).toInt ≤ (own_m x y z).toInt ∧ (own_m x y z).toInt ≤ (own_l x y z).toInt ∧ (own_l x y z).toInt ≤ 9223372036854775806 := by
  have a1 := own_min_i x y
  have a2 := own_max_i x y
  have a3 := own_min_i (own_min x y) z
  have a4 := own_max_i (own_max x y) z
  have a5 := own_min_i (own_max x y) z
  have a6 := own_max_i (own_min x y) (own_min (own_max x y) z)
  show 0 ≤ (own_min (own_min x y) z).toInt ∧ (own_min (own_min x y) z).toInt ≤ (own_max (own_min x y) (own_min (own_max x y) z)).toInt ∧ (own_max (own_min x y) (own_min (own_max x y) z)).toInt ≤ (own_max (own_max x y) z).toInt ∧ (own_max (own_max x y) z).toInt ≤ 9223372036854775806
  generalize own_max (own_min x y) (own_min (own_max x y) z) = m at *
  generalize own_min (own_max x y) z = c at *
  generalize own_max (own_max x y) z = l at *
  generalize own_min (own_min x y) z = f at *
  generalize own_max x y = b at *
  generalize own_min x y = a at *
  split at a1 <;> split at a2 <;> split at a3 <;> split at a4 <;> split at a5 <;> split at a6 <;> omega
theorem own_len_i {f l : Int64} (h0 : 0 ≤ f.toInt) (h1 : f.toInt ≤ l.toInt) (h2 : l.toInt ≤ 9223372036854775806) : ((l - f) + 1).toInt = l.toInt - f.toInt + 1 := by
  have e1 : (1 : Int64).toInt = 1 := rfl
  have a := Jvm.Kit.i64_sub (x := l) (y := f) (by omega) (by omega)
  have b := Jvm.Kit.i64_add (x := l - f) (y := 1) (by omega) (by omega)
  omega
theorem own_one (f : Int64) (h0 : 0 ≤ f.toInt) (h2 : f.toInt ≤ 9223372036854775806) : (f - f) + (1 : Int64) = (1 : Int64) := by
  apply Int64.toInt_inj.mp
  have e1 : (1 : Int64).toInt = 1 := rfl
  rw [own_len_i h0 (Int.le_refl _) h2]; omega
theorem own_ge {f l : Int64} (h0 : 0 ≤ f.toInt) (h1 : f.toInt ≤ l.toInt) (h2 : l.toInt ≤ 9223372036854775806) : ¬ ((l - f) + (1 : Int64)) < (1 : Int64) := by
  have e1 : (1 : Int64).toInt = 1 := rfl
  rw [Int64.lt_iff_toInt_lt, own_len_i h0 h1 h2]; omega
theorem own_le {f l : Int64} (h0 : 0 ≤ f.toInt) (h1 : f.toInt ≤ l.toInt) (h2 : l.toInt ≤ 9223372036854775806) : ¬ (l + (1 : Int64)) < ((l - f) + (1 : Int64)) := by
  have e1 : (1 : Int64).toInt = 1 := rfl
  have a := Jvm.Kit.i64_add (x := l) (y := 1) (by omega) (by omega)
  rw [Int64.lt_iff_toInt_lt, own_len_i h0 h1 h2]; omega
theorem own_add {f m l : Int64} (h0 : 0 ≤ f.toInt) (h1 : f.toInt ≤ m.toInt) (h2 : m < l) (h3 : l.toInt ≤ 9223372036854775806) : (l - f) + (1 : Int64) = ((m - f) + (1 : Int64)) + ((l - (m + (1 : Int64))) + (1 : Int64)) := by
  rw [Int64.lt_iff_toInt_lt] at h2
  apply Int64.toInt_inj.mp
  have e1 : (1 : Int64).toInt = 1 := rfl
  have a := Jvm.Kit.i64_add (x := m) (y := 1) (by omega) (by omega)
  have b := own_len_i (f := f) (l := m) h0 h1 (by omega)
  have c := own_len_i (f := m + 1) (l := l) (by omega) (by omega) h3
  have d := own_len_i (f := f) (l := l) h0 (by omega) h3
  have e := Jvm.Kit.i64_add (x := (m - f) + 1) (y := (l - (m + 1)) + 1) (by omega) (by omega)
  omega
theorem own_lcW (x y : Int64) : lcmpW x y = if x > y then (1 : Int32) else if x = y then 0 else -1 := rfl
theorem own_lc0 {x y : Int64} (h : x = y) : lcmpW x y = (0 : Int32) := by subst h; rw [own_lcW]; simp
theorem own_lc_nlt {x y : Int64} (h : ¬ x < y) : ¬ lcmpW x y < (0 : Int32) := by
  rw [own_lcW]
  by_cases g : x > y
  · rw [if_pos g]; decide
  · have e : x = y := Int64.le_antisymm (Int64.not_lt.mp g) (Int64.not_lt.mp h)
    rw [if_neg g, if_pos e]; decide
theorem own_lc_ngt {x y : Int64} (h : ¬ y < x) : ¬ (0 : Int32) < lcmpW x y := by
  rw [own_lcW]
  rw [if_neg h]
  by_cases g : x = y
  · rw [if_pos g]; decide
  · rw [if_neg g]; decide
theorem own_lc_lt {x y : Int64} (h : x < y) : lcmpW x y < (0 : Int32) := by
  rw [own_lcW]
  rw [if_neg (fun q => Int64.lt_irrefl (Int64.lt_trans h q)), if_neg (fun q => Int64.lt_irrefl (q ▸ h))]; decide
theorem own_lc_gt {x y : Int64} (h : y < x) : (0 : Int32) < lcmpW x y := by
  rw [own_lcW]
  rw [if_pos h]; decide
/-- from S the run comes to a return at which R holds -/
def Goes (p : Program) (e : Env) (below : List Frame) (R : State → Outcome → Prop) (S : State) : Prop := ∃ s₂ o, Steps p.tables e below S s₂ ∧ s₂.status = .running ∧ Ended s₂ below o ∧ R s₂ o
theorem Goes.step {p : Program} {e : Env} {below : List Frame} {R : State → Outcome → Prop} {S S' : State} (h : ∀ t, Steps p.tables e below S' t → Steps p.tables e below S t) (g : Goes p e below R S') : Goes p e below R S := by
  obtain ⟨s₂, o, h1, h2⟩ := g
  exact ⟨s₂, o, h _ h1, h2⟩
theorem d1_0 : decode jdk_29_method_70_code 0 = .ok (.lload_n 0, 1) := by decide +kernel
theorem d1_1 : decode jdk_29_method_70_code 1 = .ok (.lload_n 2, 1) := by decide +kernel
theorem d1_2 : decode jdk_29_method_70_code 2 = .ok (.lcmp, 1) := by decide +kernel
theorem d1_3 : decode jdk_29_method_70_code 3 = .ok (.ifCond .gt 7, 3) := by decide +kernel
theorem d1_6 : decode jdk_29_method_70_code 6 = .ok (.lload_n 0, 1) := by decide +kernel
theorem d1_7 : decode jdk_29_method_70_code 7 = .ok (.goto 4, 3) := by decide +kernel
theorem d1_10 : decode jdk_29_method_70_code 10 = .ok (.lload_n 2, 1) := by decide +kernel
theorem d1_11 : decode jdk_29_method_70_code 11 = .ok (.lreturn, 1) := by decide +kernel
theorem pd_1 : parseMethodDescriptor "(JJ)J" = some ⟨[.long, .long], some .long⟩ := by decide +kernel
theorem ef_1 (m : MethodId) (y0 : Int64) (y1 : Int64) : entryFrame m #[(.long y0), (.long y1)] 4 = mkF m 0 #[.val (.long y0), .second, .val (.long y1), .second] [] := by first | (simp [entryFrame, mkF, argsToLocals, Value.category]; done) | rfl
def Q1 (Z : State) (q1 : Int64) (q2 : Int64) (h0 : Heap) (n0 : Nat) (v : Option Value) (h : Heap) (L : List Loc) : Prop := v = some (.long (own_min q1 q2)) ∧ Fr n0 L ∧ h = h0
def R1 (Z : State) (q1 : Int64) (q2 : Int64) (h0 : Heap) (n0 : Nat) (U : State) (U' : State) (o : Outcome) : Prop := ∃ v L, o = .returned v ∧ Q1 Z q1 q2 h0 n0 v U'.heap L ∧ FrameEnd U o U' L ({ frames := 0, cells := 0, slots := 0, locals := 0 } : Room).cells ({ frames := 0, cells := 0, slots := 0, locals := 0 } : Room).slots
set_option maxRecDepth 65536 in
set_option maxHeartbeats 40000000 in
theorem rm1 (l : Launch) (Z : State) (a0 : Array Value) (hw : ∀ d ∈ tables_1, d.before a0 Z = true) (ws : List Jvm.Cond) (q1 : Int64) (q2 : Int64) (h0 : Heap) (n0 : Nat) (Z0 : n0 ≤ h0.size)  :
    MetFree l (⟨"java/lang/Math", "min", "(JJ)J"⟩ : MethodName) (head1 (Jvm.Cond.code (⟨"java/lang/Math", "min", "(JJ)J"⟩ : MethodName) jdk_29_method_70_code 4 (some .long) :: ws) ({ frames := 0, cells := 0, slots := 0, locals := 0 } : Room)) (fun a U => a = #[(.long q1), (.long q2)] ∧ Z.Warmed39 U.vm ∧ U.heap = h0) (fun _ _ _ _ _ => True) (fun _ U o U' => ∃ v L, o = .returned v ∧ Q1 Z q1 q2 h0 n0 v U'.heap L ∧ FrameEnd U o U' L ({ frames := 0, cells := 0, slots := 0, locals := 0 } : Room).cells ({ frames := 0, cells := 0, slots := 0, locals := 0 } : Room).slots) := by
  refine MetFree.of_bodySF (Jvm.Free.JP.mathPlain rfl (by decide +kernel)) hisR ?_
  intro p e s m args below meth c s₁ Bd hml0 hP hK
  obtain ⟨rfl, hZ, hh⟩ := hP
  have hx := Bd.exec
  have hby := Bd.bytes
  have hml : c.maxLocals = 4 := hml0
  have hown : s.vm.findClass "java/lang/Math" = some m.cls := findClass_of_methodNamed Bd.named
  have hnm := (name_of_methodNamed Bd.named Bd.method).1
  have X0 : Stand p l e ({ frames := 0, cells := 0, slots := 0, locals := 0 } : Room) s m #[(.long q1), (.long q2)] below meth c s₁ [] 0 0 := Stand.of_body Bd
  have e0 : s₁.heap = h0 := by rw [← hh, Bd.state]; rfl
  have N0 := Fr.nil n0
  show Goes p e below (R1 Z q1 q2 h0 n0 s) (s₁.setTop (entryFrame m #[(.long q1), (.long q2)] 4))
  refine Goes.step (S' := s₁.setTop (mkF m 0 #[.val (.long q1), .second, .val (.long q2), .second] [])) (fun t k => castTop (ef_1 m q1 q2) k) ?_
  by_cases c1 : q2 < q1
  · refine Goes.step (S' := s₁.setTop (mkF m 1 #[.val (.long q1), .second, .val (.long q2), .second] [(.long q1)])) (fun t k => XS.lloadN X0.here hx rfl (hb hby d1_0) rfl k) ?_
    refine Goes.step (S' := s₁.setTop (mkF m 2 #[.val (.long q1), .second, .val (.long q2), .second] [(.long q2), (.long q1)])) (fun t k => XS.lloadN X0.here hx rfl (hb hby d1_1) rfl k) ?_
    refine Goes.step (S' := s₁.setTop (mkF m 3 #[.val (.long q1), .second, .val (.long q2), .second] [(.int (lcmpW q1 q2))])) (fun t k => XS.lcmp X0.here hx rfl (hb hby d1_2) rfl k) ?_
    refine Goes.step (S' := s₁.setTop (mkF m 10 #[.val (.long q1), .second, .val (.long q2), .second] [])) (fun t k => XS.ifYes X0.here hx rfl (pc0 := 3) (pc' := 10) rfl (hb hby d1_3) rfl ((if0 _ _).trans (tlt (own_lc_gt c1)).2.2.1) (by decide) (by decide) k) ?_
    refine Goes.step (S' := s₁.setTop (mkF m 11 #[.val (.long q1), .second, .val (.long q2), .second] [(.long q2)])) (fun t k => XS.lloadN X0.here hx rfl (hb hby d1_10) rfl k) ?_
    obtain ⟨fs, hr, hrun, hended, hW, hsame⟩ := X0.leave (v := some (.long q2)) (fun h => by rw [Bd.returns] at h; cases h)
    exact ⟨_, _, X0.lreturnOut hx Bd.returns (hb hby d1_11) hr, hrun, hended, _, _, rfl, ⟨by simp only [own_min, if_pos c1], N0, e0⟩, ⟨_, rfl⟩, hW, hsame.mono (by decide) (by decide)⟩
  · refine Goes.step (S' := s₁.setTop (mkF m 1 #[.val (.long q1), .second, .val (.long q2), .second] [(.long q1)])) (fun t k => XS.lloadN X0.here hx rfl (hb hby d1_0) rfl k) ?_
    refine Goes.step (S' := s₁.setTop (mkF m 2 #[.val (.long q1), .second, .val (.long q2), .second] [(.long q2), (.long q1)])) (fun t k => XS.lloadN X0.here hx rfl (hb hby d1_1) rfl k) ?_
    refine Goes.step (S' := s₁.setTop (mkF m 3 #[.val (.long q1), .second, .val (.long q2), .second] [(.int (lcmpW q1 q2))])) (fun t k => XS.lcmp X0.here hx rfl (hb hby d1_2) rfl k) ?_
    refine Goes.step (S' := s₁.setTop (mkF m 6 #[.val (.long q1), .second, .val (.long q2), .second] [])) (fun t k => XS.ifNo X0.here hx rfl (hb hby d1_3) rfl ((if0 _ _).trans (flt (own_lc_ngt c1)).2.2.1) k) ?_
    refine Goes.step (S' := s₁.setTop (mkF m 7 #[.val (.long q1), .second, .val (.long q2), .second] [(.long q1)])) (fun t k => XS.lloadN X0.here hx rfl (hb hby d1_6) rfl k) ?_
    refine Goes.step (S' := s₁.setTop (mkF m 11 #[.val (.long q1), .second, .val (.long q2), .second] [(.long q1)])) (fun t k => XS.goto X0.here hx rfl (pc0 := 7) (pc' := 11) rfl (hb hby d1_7) (by decide) (by decide) k) ?_
    obtain ⟨fs, hr, hrun, hended, hW, hsame⟩ := X0.leave (v := some (.long q1)) (fun h => by rw [Bd.returns] at h; cases h)
    exact ⟨_, _, X0.lreturnOut hx Bd.returns (hb hby d1_11) hr, hrun, hended, _, _, rfl, ⟨by simp only [own_min, if_neg c1], N0, e0⟩, ⟨_, rfl⟩, hW, hsame.mono (by decide) (by decide)⟩
theorem d2_0 : decode jdk_29_method_66_code 0 = .ok (.lload_n 0, 1) := by decide +kernel
theorem d2_1 : decode jdk_29_method_66_code 1 = .ok (.lload_n 2, 1) := by decide +kernel
theorem d2_2 : decode jdk_29_method_66_code 2 = .ok (.lcmp, 1) := by decide +kernel
theorem d2_3 : decode jdk_29_method_66_code 3 = .ok (.ifCond .lt 7, 3) := by decide +kernel
theorem d2_6 : decode jdk_29_method_66_code 6 = .ok (.lload_n 0, 1) := by decide +kernel
theorem d2_7 : decode jdk_29_method_66_code 7 = .ok (.goto 4, 3) := by decide +kernel
theorem d2_10 : decode jdk_29_method_66_code 10 = .ok (.lload_n 2, 1) := by decide +kernel
theorem d2_11 : decode jdk_29_method_66_code 11 = .ok (.lreturn, 1) := by decide +kernel
theorem pd_2 : parseMethodDescriptor "(JJ)J" = some ⟨[.long, .long], some .long⟩ := by decide +kernel
theorem ef_2 (m : MethodId) (y0 : Int64) (y1 : Int64) : entryFrame m #[(.long y0), (.long y1)] 4 = mkF m 0 #[.val (.long y0), .second, .val (.long y1), .second] [] := by first | (simp [entryFrame, mkF, argsToLocals, Value.category]; done) | rfl
def Q2 (Z : State) (q1 : Int64) (q2 : Int64) (h0 : Heap) (n0 : Nat) (v : Option Value) (h : Heap) (L : List Loc) : Prop := v = some (.long (own_max q1 q2)) ∧ Fr n0 L ∧ h = h0
def R2 (Z : State) (q1 : Int64) (q2 : Int64) (h0 : Heap) (n0 : Nat) (U : State) (U' : State) (o : Outcome) : Prop := ∃ v L, o = .returned v ∧ Q2 Z q1 q2 h0 n0 v U'.heap L ∧ FrameEnd U o U' L ({ frames := 0, cells := 0, slots := 0, locals := 0 } : Room).cells ({ frames := 0, cells := 0, slots := 0, locals := 0 } : Room).slots
set_option maxRecDepth 65536 in
set_option maxHeartbeats 40000000 in
theorem rm2 (l : Launch) (Z : State) (a0 : Array Value) (hw : ∀ d ∈ tables_1, d.before a0 Z = true) (ws : List Jvm.Cond) (q1 : Int64) (q2 : Int64) (h0 : Heap) (n0 : Nat) (Z0 : n0 ≤ h0.size)  :
    MetFree l (⟨"java/lang/Math", "max", "(JJ)J"⟩ : MethodName) (head1 (Jvm.Cond.code (⟨"java/lang/Math", "max", "(JJ)J"⟩ : MethodName) jdk_29_method_66_code 4 (some .long) :: ws) ({ frames := 0, cells := 0, slots := 0, locals := 0 } : Room)) (fun a U => a = #[(.long q1), (.long q2)] ∧ Z.Warmed39 U.vm ∧ U.heap = h0) (fun _ _ _ _ _ => True) (fun _ U o U' => ∃ v L, o = .returned v ∧ Q2 Z q1 q2 h0 n0 v U'.heap L ∧ FrameEnd U o U' L ({ frames := 0, cells := 0, slots := 0, locals := 0 } : Room).cells ({ frames := 0, cells := 0, slots := 0, locals := 0 } : Room).slots) := by
  refine MetFree.of_bodySF (Jvm.Free.JP.mathPlain rfl (by decide +kernel)) hisR ?_
  intro p e s m args below meth c s₁ Bd hml0 hP hK
  obtain ⟨rfl, hZ, hh⟩ := hP
  have hx := Bd.exec
  have hby := Bd.bytes
  have hml : c.maxLocals = 4 := hml0
  have hown : s.vm.findClass "java/lang/Math" = some m.cls := findClass_of_methodNamed Bd.named
  have hnm := (name_of_methodNamed Bd.named Bd.method).1
  have X0 : Stand p l e ({ frames := 0, cells := 0, slots := 0, locals := 0 } : Room) s m #[(.long q1), (.long q2)] below meth c s₁ [] 0 0 := Stand.of_body Bd
  have e0 : s₁.heap = h0 := by rw [← hh, Bd.state]; rfl
  have N0 := Fr.nil n0
  show Goes p e below (R2 Z q1 q2 h0 n0 s) (s₁.setTop (entryFrame m #[(.long q1), (.long q2)] 4))
  refine Goes.step (S' := s₁.setTop (mkF m 0 #[.val (.long q1), .second, .val (.long q2), .second] [])) (fun t k => castTop (ef_2 m q1 q2) k) ?_
  by_cases c1 : q1 < q2
  · refine Goes.step (S' := s₁.setTop (mkF m 1 #[.val (.long q1), .second, .val (.long q2), .second] [(.long q1)])) (fun t k => XS.lloadN X0.here hx rfl (hb hby d2_0) rfl k) ?_
    refine Goes.step (S' := s₁.setTop (mkF m 2 #[.val (.long q1), .second, .val (.long q2), .second] [(.long q2), (.long q1)])) (fun t k => XS.lloadN X0.here hx rfl (hb hby d2_1) rfl k) ?_
    refine Goes.step (S' := s₁.setTop (mkF m 3 #[.val (.long q1), .second, .val (.long q2), .second] [(.int (lcmpW q1 q2))])) (fun t k => XS.lcmp X0.here hx rfl (hb hby d2_2) rfl k) ?_
    refine Goes.step (S' := s₁.setTop (mkF m 10 #[.val (.long q1), .second, .val (.long q2), .second] [])) (fun t k => XS.ifYes X0.here hx rfl (pc0 := 3) (pc' := 10) rfl (hb hby d2_3) rfl ((if0 _ _).trans (tlt (own_lc_lt c1)).1) (by decide) (by decide) k) ?_
    refine Goes.step (S' := s₁.setTop (mkF m 11 #[.val (.long q1), .second, .val (.long q2), .second] [(.long q2)])) (fun t k => XS.lloadN X0.here hx rfl (hb hby d2_10) rfl k) ?_
    obtain ⟨fs, hr, hrun, hended, hW, hsame⟩ := X0.leave (v := some (.long q2)) (fun h => by rw [Bd.returns] at h; cases h)
    exact ⟨_, _, X0.lreturnOut hx Bd.returns (hb hby d2_11) hr, hrun, hended, _, _, rfl, ⟨by simp only [own_max, if_pos c1], N0, e0⟩, ⟨_, rfl⟩, hW, hsame.mono (by decide) (by decide)⟩
  · refine Goes.step (S' := s₁.setTop (mkF m 1 #[.val (.long q1), .second, .val (.long q2), .second] [(.long q1)])) (fun t k => XS.lloadN X0.here hx rfl (hb hby d2_0) rfl k) ?_
    refine Goes.step (S' := s₁.setTop (mkF m 2 #[.val (.long q1), .second, .val (.long q2), .second] [(.long q2), (.long q1)])) (fun t k => XS.lloadN X0.here hx rfl (hb hby d2_1) rfl k) ?_
    refine Goes.step (S' := s₁.setTop (mkF m 3 #[.val (.long q1), .second, .val (.long q2), .second] [(.int (lcmpW q1 q2))])) (fun t k => XS.lcmp X0.here hx rfl (hb hby d2_2) rfl k) ?_
    refine Goes.step (S' := s₁.setTop (mkF m 6 #[.val (.long q1), .second, .val (.long q2), .second] [])) (fun t k => XS.ifNo X0.here hx rfl (hb hby d2_3) rfl ((if0 _ _).trans (flt (own_lc_nlt c1)).1) k) ?_
    refine Goes.step (S' := s₁.setTop (mkF m 7 #[.val (.long q1), .second, .val (.long q2), .second] [(.long q1)])) (fun t k => XS.lloadN X0.here hx rfl (hb hby d2_6) rfl k) ?_
    refine Goes.step (S' := s₁.setTop (mkF m 11 #[.val (.long q1), .second, .val (.long q2), .second] [(.long q1)])) (fun t k => XS.goto X0.here hx rfl (pc0 := 7) (pc' := 11) rfl (hb hby d2_7) (by decide) (by decide) k) ?_
    obtain ⟨fs, hr, hrun, hended, hW, hsame⟩ := X0.leave (v := some (.long q1)) (fun h => by rw [Bd.returns] at h; cases h)
    exact ⟨_, _, X0.lreturnOut hx Bd.returns (hb hby d2_11) hr, hrun, hended, _, _, rfl, ⟨by simp only [own_max, if_neg c1], N0, e0⟩, ⟨_, rfl⟩, hW, hsame.mono (by decide) (by decide)⟩
theorem d3_0 : decode method_2_code 0 = .ok (.lload_n 0, 1) := by decide +kernel
theorem d3_1 : decode method_2_code 1 = .ok (.ldc2_w 9, 3) := by decide +kernel
theorem d3_4 : decode method_2_code 4 = .ok (.land, 1) := by decide +kernel
theorem d3_5 : decode method_2_code 5 = .ok (.ldc2_w 11, 3) := by decide +kernel
theorem d3_8 : decode method_2_code 8 = .ok (.invokestatic 13, 3) := by decide +kernel
theorem d3_11 : decode method_2_code 11 = .ok (.lreturn, 1) := by decide +kernel
theorem pn_3 : plainName "com/example/enact/enact/ByteRangeLengthPinLaw" = true := by first | (simp [plainName, overriddenIn]; done) | decide +kernel
theorem pd_3 : parseMethodDescriptor "(J)J" = some ⟨[.long], some .long⟩ := by decide +kernel
theorem ef_3 (m : MethodId) (y0 : Int64) : entryFrame m #[(.long y0)] 2 = mkF m 0 #[.val (.long y0), .second] [] := by first | (simp [entryFrame, mkF, argsToLocals, Value.category]; done) | rfl
def Q3 (Z : State) (q1 : Int64) (h0 : Heap) (n0 : Nat) (v : Option Value) (h : Heap) (L : List Loc) : Prop := v = some (.long (own_pos q1)) ∧ Fr n0 L ∧ h = h0
def R3 (Z : State) (q1 : Int64) (h0 : Heap) (n0 : Nat) (U : State) (U' : State) (o : Outcome) : Prop := ∃ v L, o = .returned v ∧ Q3 Z q1 h0 n0 v U'.heap L ∧ FrameEnd U o U' L ({ frames := 1, cells := 0, slots := 0, locals := 15 } : Room).cells ({ frames := 1, cells := 0, slots := 0, locals := 15 } : Room).slots
set_option maxRecDepth 65536 in
set_option maxHeartbeats 40000000 in
theorem rm3 (l : Launch) (Z : State) (a0 : Array Value) (hw : ∀ d ∈ tables_1, d.before a0 Z = true) (ws : List Jvm.Cond) (q1 : Int64) (h0 : Heap) (n0 : Nat) (Z0 : n0 ≤ h0.size)  :
    MetFree l (⟨"com/example/enact/enact/ByteRangeLengthPinLaw", "pos", "(J)J"⟩ : MethodName) (head1 (Jvm.Cond.code (⟨"com/example/enact/enact/ByteRangeLengthPinLaw", "pos", "(J)J"⟩ : MethodName) method_2_code 2 (some .long) :: ws) ({ frames := 1, cells := 0, slots := 0, locals := 15 } : Room)) (fun a U => a = #[(.long q1)] ∧ Z.Warmed39 U.vm ∧ U.heap = h0) (fun _ _ _ _ _ => True) (fun _ U o U' => ∃ v L, o = .returned v ∧ Q3 Z q1 h0 n0 v U'.heap L ∧ FrameEnd U o U' L ({ frames := 1, cells := 0, slots := 0, locals := 15 } : Room).cells ({ frames := 1, cells := 0, slots := 0, locals := 15 } : Room).slots) := by
  refine MetFree.of_bodySF (plainFor_of_name pn_3) hisR ?_
  intro p e s m args below meth c s₁ Bd hml0 hP hK
  obtain ⟨rfl, hZ, hh⟩ := hP
  have hx := Bd.exec
  have hby := Bd.bytes
  have hml : c.maxLocals = 2 := hml0
  have hown : s.vm.findClass "com/example/enact/enact/ByteRangeLengthPinLaw" = some m.cls := findClass_of_methodNamed Bd.named
  have hnm := (name_of_methodNamed Bd.named Bd.method).1
  have X0 : Stand p l e ({ frames := 1, cells := 0, slots := 0, locals := 15 } : Room) s m #[(.long q1)] below meth c s₁ [] 0 0 := Stand.of_body Bd
  have e0 : s₁.heap = h0 := by rw [← hh, Bd.state]; rfl
  have N0 := Fr.nil n0
  show Goes p e below (R3 Z q1 h0 n0 s) (s₁.setTop (entryFrame m #[(.long q1)] 2))
  refine Goes.step (S' := s₁.setTop (mkF m 0 #[.val (.long q1), .second] [])) (fun t k => castTop (ef_3 m q1) k) ?_
  refine Goes.step (S' := s₁.setTop (mkF m 1 #[.val (.long q1), .second] [(.long q1)])) (fun t k => XS.lloadN X0.here hx rfl (hb hby d3_0) rfl k) ?_
  refine Goes.step (S' := s₁.setTop (mkF m 4 #[.val (.long q1), .second] [(.long (9223372036854775807 : Int64)), (.long q1)])) (fun t k => X0.ldc2Long hx hown (mvT hZ (hw _ (List.mem_of_getElem? (i := 4) rfl))) (g := (mkF m 1 #[.val (.long q1), .second] [(.long q1)])) rfl (hb hby d3_1) _ k) ?_
  refine Goes.step (S' := s₁.setTop (mkF m 5 #[.val (.long q1), .second] [(.long (q1 &&& (9223372036854775807 : Int64)))])) (fun t k => XS.land X0.here hx rfl (hb hby d3_4) rfl k) ?_
  refine Goes.step (S' := s₁.setTop (mkF m 8 #[.val (.long q1), .second] [(.long (9223372036854775806 : Int64)), (.long (q1 &&& (9223372036854775807 : Int64)))])) (fun t k => X0.ldc2Long hx hown (mvT hZ (hw _ (List.mem_of_getElem? (i := 5) rfl))) (g := (mkF m 5 #[.val (.long q1), .second] [(.long (q1 &&& (9223372036854775807 : Int64)))])) rfl (hb hby d3_5) _ k) ?_
  obtain ⟨_, _, ⟨T1, L1, k1, n1⟩, -, X1, ⟨Lc1, hQ1, l1, y1, z1⟩, st1⟩ := Jvm.LawKit.callS X0 hx (y := (⟨"java/lang/Math", "min", "(JJ)J"⟩ : MethodName)) hown (mvT hZ (hw _ (List.mem_of_getElem? (i := 6) rfl))) (mvT hZ (hw _ (List.mem_of_getElem? (i := 7) rfl))) (mvT hZ (hw _ (List.mem_of_getElem? (i := 8) rfl))) (mvT hZ (hw _ (List.mem_of_getElem? (i := 9) rfl))) (by decide) (backOf (W := 0) (rm1 l Z a0 hw [] (q1 &&& (9223372036854775807 : Int64)) (9223372036854775806 : Int64) h0 n0 Z0) hZ (hw _ (List.mem_of_getElem? (i := 9) rfl)) (hw _ (List.mem_of_getElem? (i := 8) rfl)) (by decide) (by decide)) (g := (mkF m 8 #[.val (.long q1), .second] [(.long (9223372036854775806 : Int64)), (.long (q1 &&& (9223372036854775807 : Int64)))])) rfl (by rw [hml]; rfl) (argsL := [(.long (q1 &&& (9223372036854775807 : Int64))), (.long (9223372036854775806 : Int64))]) (rest := []) (lenOf pd_1 rfl) rfl (by show 2 * 0 + _ ≤ _; exact Nat.le_of_eq rfl) (hb hby d3_8) (fun _ _ => ⟨rfl, e0, (by decide : 0 + 0 ≤ _), (by decide : 0 + 0 ≤ _)⟩)
  dsimp only [Pt.U, Pt.locs, Pt.cells, Pt.slots] at X1 l1 y1 z1 st1 hQ1
  subst l1 y1 z1
  obtain ⟨rfl, N1q, e1⟩ := hQ1
  have N1 := Fr.app N0 N1q
  refine Goes.step (S' := T1.setTop (mkF m 11 #[.val (.long q1), .second] [(.long (own_pos q1))])) (fun t k => st1 t k) ?_
  obtain ⟨fs, hr, hrun, hended, hW, hsame⟩ := X1.leave (v := some (.long (own_pos q1))) (fun h => by rw [Bd.returns] at h; cases h)
  exact ⟨_, _, X1.lreturnOut hx Bd.returns (hb hby d3_11) hr, hrun, hended, _, _, rfl, ⟨rfl, N1, e1⟩, ⟨_, rfl⟩, hW, hsame.mono (by decide) (by decide)⟩
theorem d4_0 : decode jdk_30_method_1_code 0 = .ok (.aload_n 0, 1) := by decide +kernel
theorem d4_1 : decode jdk_30_method_1_code 1 = .ok (.invokespecial 1, 3) := by decide +kernel
theorem d4_4 : decode jdk_30_method_1_code 4 = .ok (.return_, 1) := by decide +kernel
theorem pn_4 : plainName "java/lang/Record" = true := by first | (simp [plainName, overriddenIn]; done) | decide +kernel
theorem pd_4 : parseMethodDescriptor "()V" = some ⟨[], none⟩ := by decide +kernel
theorem ef_4 (m : MethodId) (y0 : Addr) : entryFrame m #[(.ref y0)] 1 = mkF m 0 #[.val (.ref y0)] [] := by first | (simp [entryFrame, mkF, argsToLocals, Value.category]; done) | rfl
def Q4 (Z : State) (a1 : Addr) (h0 : Heap) (n0 : Nat) (v : Option Value) (h : Heap) (L : List Loc) : Prop := v = none ∧ Fr n0 L ∧ h = h0
def R4 (Z : State) (a1 : Addr) (h0 : Heap) (n0 : Nat) (U : State) (U' : State) (o : Outcome) : Prop := ∃ v L, o = .returned v ∧ Q4 Z a1 h0 n0 v U'.heap L ∧ FrameEnd U o U' L ({ frames := 1, cells := 0, slots := 0, locals := 12 } : Room).cells ({ frames := 1, cells := 0, slots := 0, locals := 12 } : Room).slots
set_option maxRecDepth 65536 in
set_option maxHeartbeats 40000000 in
theorem rm4 (l : Launch) (Z : State) (a0 : Array Value) (hw : ∀ d ∈ tables_1, d.before a0 Z = true) (ws : List Jvm.Cond) (a1 : Addr) (h0 : Heap) (n0 : Nat) (Z0 : n0 ≤ h0.size)  :
    MetFree l (⟨"java/lang/Record", "<init>", "()V"⟩ : MethodName) (head1 (Jvm.Cond.code (⟨"java/lang/Record", "<init>", "()V"⟩ : MethodName) jdk_30_method_1_code 1 none :: ws) ({ frames := 1, cells := 0, slots := 0, locals := 12 } : Room)) (fun a U => a = #[(.ref a1)] ∧ Z.Warmed39 U.vm ∧ U.heap = h0) (fun _ _ _ _ _ => True) (fun _ U o U' => ∃ v L, o = .returned v ∧ Q4 Z a1 h0 n0 v U'.heap L ∧ FrameEnd U o U' L ({ frames := 1, cells := 0, slots := 0, locals := 12 } : Room).cells ({ frames := 1, cells := 0, slots := 0, locals := 12 } : Room).slots) := by
  refine MetFree.of_bodySF (plainFor_of_name pn_4) hisR ?_
  intro p e s m args below meth c s₁ Bd hml0 hP hK
  obtain ⟨rfl, hZ, hh⟩ := hP
  have hx := Bd.exec
  have hby := Bd.bytes
  have hml : c.maxLocals = 1 := hml0
  have hown : s.vm.findClass "java/lang/Record" = some m.cls := findClass_of_methodNamed Bd.named
  have hnm := (name_of_methodNamed Bd.named Bd.method).1
  have X0 : Stand p l e ({ frames := 1, cells := 0, slots := 0, locals := 12 } : Room) s m #[(.ref a1)] below meth c s₁ [] 0 0 := Stand.of_body Bd
  have e0 : s₁.heap = h0 := by rw [← hh, Bd.state]; rfl
  have N0 := Fr.nil n0
  show Goes p e below (R4 Z a1 h0 n0 s) (s₁.setTop (entryFrame m #[(.ref a1)] 1))
  refine Goes.step (S' := s₁.setTop (mkF m 0 #[.val (.ref a1)] [])) (fun t k => castTop (ef_4 m a1) k) ?_
  refine Goes.step (S' := s₁.setTop (mkF m 1 #[.val (.ref a1)] [(.ref a1)])) (fun t k => XS.aloadN X0.here hx rfl (hb hby d4_0) rfl rfl k) ?_
  obtain ⟨T2, X2, e2, st2⟩ := initO X0 hx hZ hown (hw _ (List.mem_of_getElem? (i := 24) rfl)) (hw _ (List.mem_of_getElem? (i := 25) rfl)) (hw _ (List.mem_of_getElem? (i := 26) rfl)) e0 (g := (mkF m 1 #[.val (.ref a1)] [(.ref a1)])) rfl (by rw [hml]; rfl) rfl (hb hby d4_1) (by decide) (W := 0) (by show 2 * 0 + _ ≤ _; exact Nat.le_of_eq rfl) (by decide)
  refine Goes.step (S' := T2.setTop (mkF m 4 #[.val (.ref a1)] [])) (fun t k => st2 t k) ?_
  obtain ⟨fs, hr, hrun, hended, hW, hsame⟩ := X2.leave (v := none) (fun _ => rfl)
  exact ⟨_, _, X2.returnOut hx Bd.returns (hb hby d4_4) hr, hrun, hended, _, _, rfl, ⟨rfl, N0, e2⟩, ⟨_, rfl⟩, hW, hsame.mono (by decide) (by decide)⟩
theorem d5_0 : decode prog_3_method_1_code 0 = .ok (.aload_n 0, 1) := by decide +kernel
theorem d5_1 : decode prog_3_method_1_code 1 = .ok (.invokespecial 1, 3) := by decide +kernel
theorem d5_4 : decode prog_3_method_1_code 4 = .ok (.aload_n 0, 1) := by decide +kernel
theorem d5_5 : decode prog_3_method_1_code 5 = .ok (.lload_n 1, 1) := by decide +kernel
theorem d5_6 : decode prog_3_method_1_code 6 = .ok (.putfield 7, 3) := by decide +kernel
theorem d5_9 : decode prog_3_method_1_code 9 = .ok (.aload_n 0, 1) := by decide +kernel
theorem d5_10 : decode prog_3_method_1_code 10 = .ok (.lload_n 3, 1) := by decide +kernel
theorem d5_11 : decode prog_3_method_1_code 11 = .ok (.putfield 13, 3) := by decide +kernel
theorem d5_14 : decode prog_3_method_1_code 14 = .ok (.return_, 1) := by decide +kernel
theorem pn_5 : plainName "com/example/enact/enact/ByteRange" = true := by first | (simp [plainName, overriddenIn]; done) | decide +kernel
theorem pd_5 : parseMethodDescriptor "(JJ)V" = some ⟨[.long, .long], none⟩ := by decide +kernel
theorem ef_5 (m : MethodId) (y0 : Addr) (y1 : Int64) (y2 : Int64) : entryFrame m #[(.ref y0), (.long y1), (.long y2)] 5 = mkF m 0 #[.val (.ref y0), .val (.long y1), .second, .val (.long y2), .second] [] := by first | (simp [entryFrame, mkF, argsToLocals, Value.category]; done) | rfl
def Q5 (Z : State) (a1 : Addr) (q1 : Int64) (q2 : Int64) (u1 : Value) (u2 : Value) (h0 : Heap) (n0 : Nat) (v : Option Value) (h : Heap) (L : List Loc) : Prop := v = none ∧ Fr n0 L ∧ Keep h0 h [a1] ∧ Exa Z h a1 "com/example/enact/enact/ByteRange" ∧ (Fld Z h a1 "com/example/enact/enact/ByteRange" "first" "J" (.long q1)) ∧ (Fld Z h a1 "com/example/enact/enact/ByteRange" "last" "J" (.long q2))
def R5 (Z : State) (a1 : Addr) (q1 : Int64) (q2 : Int64) (u1 : Value) (u2 : Value) (h0 : Heap) (n0 : Nat) (U : State) (U' : State) (o : Outcome) : Prop := ∃ v L, o = .returned v ∧ Q5 Z a1 q1 q2 u1 u2 h0 n0 v U'.heap L ∧ FrameEnd U o U' L ({ frames := 2, cells := 0, slots := 0, locals := 24 } : Room).cells ({ frames := 2, cells := 0, slots := 0, locals := 24 } : Room).slots
set_option maxRecDepth 65536 in
set_option maxHeartbeats 40000000 in
theorem rm5 (l : Launch) (Z : State) (a0 : Array Value) (hw : ∀ d ∈ tables_1, d.before a0 Z = true) (ws : List Jvm.Cond) (a1 : Addr) (q1 : Int64) (q2 : Int64) (u1 : Value) (u2 : Value) (h0 : Heap) (n0 : Nat) (Z0 : n0 ≤ h0.size) (E1 : Exa Z h0 a1 "com/example/enact/enact/ByteRange") (F1 : (Fld Z h0 a1 "com/example/enact/enact/ByteRange" "first" "J" u1)) (F2 : (Fld Z h0 a1 "com/example/enact/enact/ByteRange" "last" "J" u2)) (ga : n0 ≤ a1) :
    MetFree l (⟨"com/example/enact/enact/ByteRange", "<init>", "(JJ)V"⟩ : MethodName) (head1 (Jvm.Cond.code (⟨"com/example/enact/enact/ByteRange", "<init>", "(JJ)V"⟩ : MethodName) prog_3_method_1_code 5 none :: ws) ({ frames := 2, cells := 0, slots := 0, locals := 24 } : Room)) (fun a U => a = #[(.ref a1), (.long q1), (.long q2)] ∧ Z.Warmed39 U.vm ∧ U.heap = h0) (fun _ _ _ _ _ => True) (fun _ U o U' => ∃ v L, o = .returned v ∧ Q5 Z a1 q1 q2 u1 u2 h0 n0 v U'.heap L ∧ FrameEnd U o U' L ({ frames := 2, cells := 0, slots := 0, locals := 24 } : Room).cells ({ frames := 2, cells := 0, slots := 0, locals := 24 } : Room).slots) := by
  refine MetFree.of_bodySF (plainFor_of_name pn_5) hisR ?_
  intro p e s m args below meth c s₁ Bd hml0 hP hK
  obtain ⟨rfl, hZ, hh⟩ := hP
  have hx := Bd.exec
  have hby := Bd.bytes
  have hml : c.maxLocals = 5 := hml0
  have hown : s.vm.findClass "com/example/enact/enact/ByteRange" = some m.cls := findClass_of_methodNamed Bd.named
  have hnm := (name_of_methodNamed Bd.named Bd.method).1
  have X0 : Stand p l e ({ frames := 2, cells := 0, slots := 0, locals := 24 } : Room) s m #[(.ref a1), (.long q1), (.long q2)] below meth c s₁ [] 0 0 := Stand.of_body Bd
  have e0 : s₁.heap = h0 := by rw [← hh, Bd.state]; rfl
  have N0 := Fr.nil n0
  show Goes p e below (R5 Z a1 q1 q2 u1 u2 h0 n0 s) (s₁.setTop (entryFrame m #[(.ref a1), (.long q1), (.long q2)] 5))
  refine Goes.step (S' := s₁.setTop (mkF m 0 #[.val (.ref a1), .val (.long q1), .second, .val (.long q2), .second] [])) (fun t k => castTop (ef_5 m a1 q1 q2) k) ?_
  refine Goes.step (S' := s₁.setTop (mkF m 1 #[.val (.ref a1), .val (.long q1), .second, .val (.long q2), .second] [(.ref a1)])) (fun t k => XS.aloadN X0.here hx rfl (hb hby d5_0) rfl rfl k) ?_
  obtain ⟨_, _, ⟨T3, L3, k3, n3⟩, -, X3, ⟨Lc3, hQ3, l3, y3, z3⟩, st3⟩ := X0.specialBack hx (y := (⟨"java/lang/Record", "<init>", "()V"⟩ : MethodName)) rfl hown (mvT hZ (hw _ (List.mem_of_getElem? (i := 19) rfl))) (mvT hZ (hw _ (List.mem_of_getElem? (i := 20) rfl))) (mvT hZ (hw _ (List.mem_of_getElem? (i := 23) rfl))) (by decide) (backOf (W := 0) (rm4 l Z a0 hw [] a1 h0 n0 Z0) hZ (hw _ (List.mem_of_getElem? (i := 23) rfl)) (hw _ (List.mem_of_getElem? (i := 22) rfl)) (by decide) (by decide)) (g := (mkF m 1 #[.val (.ref a1), .val (.long q1), .second, .val (.long q2), .second] [(.ref a1)])) rfl (by rw [hml]; rfl) (Steps.refl _) (a := a1) (argsL := []) (rest := []) (lenOf pd_4 rfl) rfl (by show 2 * 0 + _ ≤ _; exact Nat.le_of_eq rfl) (hb hby d5_1) (fun _ _ => ⟨rfl, e0, (by decide : 0 + 0 ≤ _), (by decide : 0 + 0 ≤ _)⟩)
  dsimp only [Pt.U, Pt.locs, Pt.cells, Pt.slots] at X3 l3 y3 z3 st3 hQ3
  subst l3 y3 z3
  obtain ⟨rfl, N3q, e3⟩ := hQ3
  have N3 := Fr.app N0 N3q
  refine Goes.step (S' := T3.setTop (mkF m 4 #[.val (.ref a1), .val (.long q1), .second, .val (.long q2), .second] [])) (fun t k => st3.trans k) ?_
  refine Goes.step (S' := T3.setTop (mkF m 5 #[.val (.ref a1), .val (.long q1), .second, .val (.long q2), .second] [(.ref a1)])) (fun t k => XS.aloadN X3.here hx rfl (hb hby d5_4) rfl rfl k) ?_
  refine Goes.step (S' := T3.setTop (mkF m 6 #[.val (.ref a1), .val (.long q1), .second, .val (.long q2), .second] [(.long q1), (.ref a1)])) (fun t k => XS.lloadN X3.here hx rfl (hb hby d5_5) rfl k) ?_
  obtain ⟨T4, h4, X4, e4, W4, st4⟩ := putF X3 hx hZ hown (host := "") (Or.inl (hw _ (List.mem_of_getElem? (i := 27) rfl))) Via.refl e3 F1 E1 (Or.inr ⟨(hw _ (List.mem_of_getElem? (i := 28) rfl)), rfl, hnm⟩) (hw _ (List.mem_of_getElem? (i := 14) rfl)) (ty := .long) (by decide) rfl rfl (g := (mkF m 6 #[.val (.ref a1), .val (.long q1), .second, .val (.long q2), .second] [(.long q1), (.ref a1)])) rfl rfl (hb hby d5_6)
  have N4 := Fr.snoc X4 N3 ga
  refine Goes.step (S' := T4.setTop (mkF m 9 #[.val (.ref a1), .val (.long q1), .second, .val (.long q2), .second] [])) (fun t k => st4 t k) ?_
  have K4 : Keep h0 h4 [a1] := (Keep.refl _ _).wr W4 (Or.inl (List.mem_of_getElem? (i := 0) rfl))
  refine Goes.step (S' := T4.setTop (mkF m 10 #[.val (.ref a1), .val (.long q1), .second, .val (.long q2), .second] [(.ref a1)])) (fun t k => XS.aloadN X4.here hx rfl (hb hby d5_9) rfl rfl k) ?_
  refine Goes.step (S' := T4.setTop (mkF m 11 #[.val (.ref a1), .val (.long q1), .second, .val (.long q2), .second] [(.long q2), (.ref a1)])) (fun t k => XS.lloadN X4.here hx rfl (hb hby d5_10) rfl k) ?_
  obtain ⟨T5, h5, X5, e5, W5, st5⟩ := putF X4 hx hZ hown (host := "") (Or.inl (hw _ (List.mem_of_getElem? (i := 29) rfl))) Via.refl e4 (F2.other W4 (Or.inr (slot_ne (Or.inr (hw _ (List.mem_of_getElem? (i := 30) rfl))) (Or.inr (hw _ (List.mem_of_getElem? (i := 28) rfl))) (by decide) (t := .long) (t' := .long) (by decide) (by decide)))) (E1.wr W4) (Or.inr ⟨(hw _ (List.mem_of_getElem? (i := 30) rfl)), rfl, hnm⟩) (hw _ (List.mem_of_getElem? (i := 14) rfl)) (ty := .long) (by decide) rfl rfl (g := (mkF m 11 #[.val (.ref a1), .val (.long q1), .second, .val (.long q2), .second] [(.long q2), (.ref a1)])) rfl rfl (hb hby d5_11)
  have N5 := Fr.snoc X5 N4 ga
  refine Goes.step (S' := T5.setTop (mkF m 14 #[.val (.ref a1), .val (.long q1), .second, .val (.long q2), .second] [])) (fun t k => st5 t k) ?_
  have K5 : Keep h0 h5 [a1] := K4.wr W5 (Or.inl (List.mem_of_getElem? (i := 0) rfl))
  have G1 := (F1.same W4).other W5 (Or.inr (slot_ne (Or.inr (hw _ (List.mem_of_getElem? (i := 28) rfl))) (Or.inr (hw _ (List.mem_of_getElem? (i := 30) rfl))) (by decide) (t := .long) (t' := .long) (by decide) (by decide)))
  have G2 := (F2.other W4 (Or.inr (slot_ne (Or.inr (hw _ (List.mem_of_getElem? (i := 30) rfl))) (Or.inr (hw _ (List.mem_of_getElem? (i := 28) rfl))) (by decide) (t := .long) (t' := .long) (by decide) (by decide)))).same W5
  have G3 := (E1.wr W4).wr W5
  subst e5
  obtain ⟨fs, hr, hrun, hended, hW, hsame⟩ := X5.leave (v := none) (fun _ => rfl)
  exact ⟨_, _, X5.returnOut hx Bd.returns (hb hby d5_14) hr, hrun, hended, _, _, rfl, ⟨rfl, N5, K5, G3, G1, G2⟩, ⟨_, rfl⟩, hW, hsame.mono (by decide) (by decide)⟩
theorem d6_0 : decode prog_3_method_3_code 0 = .ok (.aload_n 0, 1) := by decide +kernel
theorem d6_1 : decode prog_3_method_3_code 1 = .ok (.getfield 13, 3) := by decide +kernel
theorem d6_4 : decode prog_3_method_3_code 4 = .ok (.aload_n 0, 1) := by decide +kernel
theorem d6_5 : decode prog_3_method_3_code 5 = .ok (.getfield 7, 3) := by decide +kernel
theorem d6_8 : decode prog_3_method_3_code 8 = .ok (.lsub, 1) := by decide +kernel
theorem d6_9 : decode prog_3_method_3_code 9 = .ok (.lconst 1, 1) := by decide +kernel
theorem d6_10 : decode prog_3_method_3_code 10 = .ok (.ladd, 1) := by decide +kernel
theorem d6_11 : decode prog_3_method_3_code 11 = .ok (.lreturn, 1) := by decide +kernel
theorem pn_6 : plainName "com/example/enact/enact/ByteRange" = true := by first | (simp [plainName, overriddenIn]; done) | decide +kernel
theorem pd_6 : parseMethodDescriptor "()J" = some ⟨[], some .long⟩ := by decide +kernel
theorem ef_6 (m : MethodId) (y0 : Addr) : entryFrame m #[(.ref y0)] 1 = mkF m 0 #[.val (.ref y0)] [] := by first | (simp [entryFrame, mkF, argsToLocals, Value.category]; done) | rfl
def Q6 (Z : State) (a1 : Addr) (q1 : Int64) (q2 : Int64) (h0 : Heap) (n0 : Nat) (v : Option Value) (h : Heap) (L : List Loc) : Prop := v = some (.long ((q2 - q1) + (1 : Int64))) ∧ Fr n0 L ∧ h = h0
def R6 (Z : State) (a1 : Addr) (q1 : Int64) (q2 : Int64) (h0 : Heap) (n0 : Nat) (U : State) (U' : State) (o : Outcome) : Prop := ∃ v L, o = .returned v ∧ Q6 Z a1 q1 q2 h0 n0 v U'.heap L ∧ FrameEnd U o U' L ({ frames := 0, cells := 0, slots := 0, locals := 0 } : Room).cells ({ frames := 0, cells := 0, slots := 0, locals := 0 } : Room).slots
set_option maxRecDepth 65536 in
set_option maxHeartbeats 40000000 in
theorem rm6 (l : Launch) (Z : State) (a0 : Array Value) (hw : ∀ d ∈ tables_1, d.before a0 Z = true) (ws : List Jvm.Cond) (a1 : Addr) (q1 : Int64) (q2 : Int64) (h0 : Heap) (n0 : Nat) (Z0 : n0 ≤ h0.size) (F1 : (Fld Z h0 a1 "com/example/enact/enact/ByteRange" "first" "J" (.long q1))) (F2 : (Fld Z h0 a1 "com/example/enact/enact/ByteRange" "last" "J" (.long q2))) :
    MetFree l (⟨"com/example/enact/enact/ByteRange", "length", "()J"⟩ : MethodName) (head1 (Jvm.Cond.code (⟨"com/example/enact/enact/ByteRange", "length", "()J"⟩ : MethodName) prog_3_method_3_code 1 (some .long) :: ws) ({ frames := 0, cells := 0, slots := 0, locals := 0 } : Room)) (fun a U => a = #[(.ref a1)] ∧ Z.Warmed39 U.vm ∧ U.heap = h0) (fun _ _ _ _ _ => True) (fun _ U o U' => ∃ v L, o = .returned v ∧ Q6 Z a1 q1 q2 h0 n0 v U'.heap L ∧ FrameEnd U o U' L ({ frames := 0, cells := 0, slots := 0, locals := 0 } : Room).cells ({ frames := 0, cells := 0, slots := 0, locals := 0 } : Room).slots) := by
  refine MetFree.of_bodySF (plainFor_of_name pn_6) hisR ?_
  intro p e s m args below meth c s₁ Bd hml0 hP hK
  obtain ⟨rfl, hZ, hh⟩ := hP
  have hx := Bd.exec
  have hby := Bd.bytes
  have hml : c.maxLocals = 1 := hml0
  have hown : s.vm.findClass "com/example/enact/enact/ByteRange" = some m.cls := findClass_of_methodNamed Bd.named
  have hnm := (name_of_methodNamed Bd.named Bd.method).1
  have X0 : Stand p l e ({ frames := 0, cells := 0, slots := 0, locals := 0 } : Room) s m #[(.ref a1)] below meth c s₁ [] 0 0 := Stand.of_body Bd
  have e0 : s₁.heap = h0 := by rw [← hh, Bd.state]; rfl
  have N0 := Fr.nil n0
  show Goes p e below (R6 Z a1 q1 q2 h0 n0 s) (s₁.setTop (entryFrame m #[(.ref a1)] 1))
  refine Goes.step (S' := s₁.setTop (mkF m 0 #[.val (.ref a1)] [])) (fun t k => castTop (ef_6 m a1) k) ?_
  refine Goes.step (S' := s₁.setTop (mkF m 1 #[.val (.ref a1)] [(.ref a1)])) (fun t k => XS.aloadN X0.here hx rfl (hb hby d6_0) rfl rfl k) ?_
  obtain ⟨T6, X6, e6, st6⟩ := getF X0 hx hZ hown (host := "") (Or.inl (hw _ (List.mem_of_getElem? (i := 29) rfl))) Via.refl e0 F2 (g := (mkF m 1 #[.val (.ref a1)] [(.ref a1)])) rfl rfl (hb hby d6_1)
  refine Goes.step (S' := T6.setTop (mkF m 4 #[.val (.ref a1)] [(.long q2)])) (fun t k => st6 t k) ?_
  refine Goes.step (S' := T6.setTop (mkF m 5 #[.val (.ref a1)] [(.ref a1), (.long q2)])) (fun t k => XS.aloadN X6.here hx rfl (hb hby d6_4) rfl rfl k) ?_
  obtain ⟨T7, X7, e7, st7⟩ := getF X6 hx hZ hown (host := "") (Or.inl (hw _ (List.mem_of_getElem? (i := 27) rfl))) Via.refl e6 F1 (g := (mkF m 5 #[.val (.ref a1)] [(.ref a1), (.long q2)])) rfl rfl (hb hby d6_5)
  refine Goes.step (S' := T7.setTop (mkF m 8 #[.val (.ref a1)] [(.long q1), (.long q2)])) (fun t k => st7 t k) ?_
  refine Goes.step (S' := T7.setTop (mkF m 9 #[.val (.ref a1)] [(.long (q2 - q1))])) (fun t k => XS.lsub X7.here hx rfl (hb hby d6_8) rfl k) ?_
  refine Goes.step (S' := T7.setTop (mkF m 10 #[.val (.ref a1)] [(.long (1 : Int64)), (.long (q2 - q1))])) (fun t k => XS.lconst X7.here hx rfl (hb hby d6_9) k) ?_
  refine Goes.step (S' := T7.setTop (mkF m 11 #[.val (.ref a1)] [(.long ((q2 - q1) + (1 : Int64)))])) (fun t k => XS.ladd X7.here hx rfl (hb hby d6_10) rfl k) ?_
  obtain ⟨fs, hr, hrun, hended, hW, hsame⟩ := X7.leave (v := some (.long ((q2 - q1) + (1 : Int64)))) (fun h => by rw [Bd.returns] at h; cases h)
  exact ⟨_, _, X7.lreturnOut hx Bd.returns (hb hby d6_11) hr, hrun, hended, _, _, rfl, ⟨rfl, N0, e7⟩, ⟨_, rfl⟩, hW, hsame.mono (by decide) (by decide)⟩
theorem pn_0 : plainName "com/example/enact/enact/ByteRangeLengthPinLaw" = true := by first | (simp [plainName, overriddenIn]; done) | decide +kernel
theorem pd_0 : parseMethodDescriptor "(JJJ)Z" = some ⟨[.long, .long, .long], some .boolean⟩ := by decide +kernel
theorem ef_0 (m : MethodId) (y0 : Int64) (y1 : Int64) (y2 : Int64) : entryFrame m #[(.long y0), (.long y1), (.long y2)] maxLocals = mkF m 0 #[.val (.long y0), .second, .val (.long y1), .second, .val (.long y2), .second, .unset, .unset, .unset, .unset, .unset, .unset, .unset, .unset, .unset, .unset, .unset, .unset, .unset, .unset, .unset, .unset, .unset, .unset, .unset] [] := by first | (simp [entryFrame, mkF, argsToLocals, Value.category, maxLocals]; done) | rfl
def Q0 (Z : State) (q1 : Int64) (q2 : Int64) (q3 : Int64) (h0 : Heap) (n0 : Nat) (v : Option Value) (h : Heap) (L : List Loc) : Prop := v = some (.int 1) ∧ Fr n0 L
def R0 (Z : State) (q1 : Int64) (q2 : Int64) (q3 : Int64) (h0 : Heap) (n0 : Nat) (U : State) (U' : State) (o : Outcome) : Prop := ∃ v L, o = .returned v ∧ Q0 Z q1 q2 q3 h0 n0 v U'.heap L ∧ FrameEnd U o U' L room_1.cells room_1.slots
set_option maxRecDepth 65536 in
set_option maxHeartbeats 40000000 in
theorem rm0 (l : Launch) (Z : State) (a0 : Array Value) (hw : ∀ d ∈ tables_1, d.before a0 Z = true) (ws : List Jvm.Cond) (q1 : Int64) (q2 : Int64) (q3 : Int64) (h0 : Heap) (n0 : Nat) (Z0 : n0 ≤ h0.size)  :
    MetFree l x (head1 (Jvm.Cond.code x code maxLocals ret :: ws) room_1) (fun a U => a = #[(.long q1), (.long q2), (.long q3)] ∧ Z.Warmed39 U.vm ∧ U.heap = h0) (fun _ _ _ _ _ => True) (fun _ U o U' => ∃ v L, o = .returned v ∧ Q0 Z q1 q2 q3 h0 n0 v U'.heap L ∧ FrameEnd U o U' L room_1.cells room_1.slots) := by
  refine MetFree.of_bodySF (plainFor_of_name pn_0) hisR ?_
  intro p e s m args below meth c s₁ Bd hml0 hP hK
  obtain ⟨rfl, hZ, hh⟩ := hP
  have hx := Bd.exec
  have hby := Bd.bytes
  have hml : c.maxLocals = 25 := hml0
  have hown : s.vm.findClass "com/example/enact/enact/ByteRangeLengthPinLaw" = some m.cls := findClass_of_methodNamed Bd.named
  have hnm := (name_of_methodNamed Bd.named Bd.method).1
  have X0 : Stand p l e room_1 s m #[(.long q1), (.long q2), (.long q3)] below meth c s₁ [] 0 0 := Stand.of_body Bd
  have e0 : s₁.heap = h0 := by rw [← hh, Bd.state]; rfl
  have N0 := Fr.nil n0
  show Goes p e below (R0 Z q1 q2 q3 h0 n0 s) (s₁.setTop (entryFrame m #[(.long q1), (.long q2), (.long q3)] maxLocals))
  refine Goes.step (S' := s₁.setTop (mkF m 0 #[.val (.long q1), .second, .val (.long q2), .second, .val (.long q3), .second, .unset, .unset, .unset, .unset, .unset, .unset, .unset, .unset, .unset, .unset, .unset, .unset, .unset, .unset, .unset, .unset, .unset, .unset, .unset] [])) (fun t k => castTop (ef_0 m q1 q2 q3) k) ?_
  have K71 : ∀ (T8 : State) (L8 : List Loc) (X8 : Stand p l e room_1 s m #[(.long q1), (.long q2), (.long q3)] below meth c T8 L8 0 0) (e8 : T8.heap = h0) (N8 : Fr n0 L8) (x : Int64) (y : Int64) (z : Int64) (f : Int64) (l' : Int64) (m' : Int64) (hf : 0 ≤ f.toInt) (hfm : f.toInt ≤ m'.toInt) (hml' : m'.toInt ≤ l'.toInt) (hl : l'.toInt ≤ 9223372036854775806), Goes p e below (R0 Z q1 q2 q3 h0 n0 s) (T8.setTop (mkF m 71 #[.val (.long q1), .second, .val (.long q2), .second, .val (.long q3), .second, .val (.long x), .second, .val (.long y), .second, .val (.long z), .second, .val (.long f), .second, .val (.long l'), .second, .val (.long m'), .second, .unset, .unset, .unset, .unset, .unset, .unset, .unset] [])) := by
    intro T8 L8 X8 e8 N8 x y z f l' m' hf hfm hml' hl
    obtain ⟨T9, h9, X9, e9, E9, A_r1, D_r1, -, st9⟩ := newO X8 hx hZ hown (hw _ (List.mem_of_getElem? (i := 13) rfl)) (hw _ (List.mem_of_getElem? (i := 14) rfl)) (hw _ (List.mem_of_getElem? (i := 15) rfl)) e8 (g := (mkF m 71 #[.val (.long q1), .second, .val (.long q2), .second, .val (.long q3), .second, .val (.long x), .second, .val (.long y), .second, .val (.long z), .second, .val (.long f), .second, .val (.long l'), .second, .val (.long m'), .second, .unset, .unset, .unset, .unset, .unset, .unset, .unset] [])) rfl (hb hby at_71) (by decide) (by decide)
    obtain ⟨r1, g_r1⟩ : ∃ z, z = h0.size := ⟨_, rfl⟩
    rw [← g_r1] at A_r1 D_r1 st9
    refine Goes.step (S' := T9.setTop (mkF m 74 #[.val (.long q1), .second, .val (.long q2), .second, .val (.long q3), .second, .val (.long x), .second, .val (.long y), .second, .val (.long z), .second, .val (.long f), .second, .val (.long l'), .second, .val (.long m'), .second, .unset, .unset, .unset, .unset, .unset, .unset, .unset] [(.ref r1)])) (fun t k => st9 t k) ?_
    have Zn9 : n0 ≤ h9.size := Nat.le_trans (Z0) E9.1
    refine Goes.step (S' := T9.setTop (mkF m 75 #[.val (.long q1), .second, .val (.long q2), .second, .val (.long q3), .second, .val (.long x), .second, .val (.long y), .second, .val (.long z), .second, .val (.long f), .second, .val (.long l'), .second, .val (.long m'), .second, .unset, .unset, .unset, .unset, .unset, .unset, .unset] [(.ref r1), (.ref r1)])) (fun t k => XS.dup X9.here hx rfl (hb hby at_74) rfl rfl k) ?_
    refine Goes.step (S' := T9.setTop (mkF m 77 #[.val (.long q1), .second, .val (.long q2), .second, .val (.long q3), .second, .val (.long x), .second, .val (.long y), .second, .val (.long z), .second, .val (.long f), .second, .val (.long l'), .second, .val (.long m'), .second, .unset, .unset, .unset, .unset, .unset, .unset, .unset] [(.long f), (.ref r1), (.ref r1)])) (fun t k => XS.lload X9.here hx rfl (hb hby at_75) rfl k) ?_
    refine Goes.step (S' := T9.setTop (mkF m 79 #[.val (.long q1), .second, .val (.long q2), .second, .val (.long q3), .second, .val (.long x), .second, .val (.long y), .second, .val (.long z), .second, .val (.long f), .second, .val (.long l'), .second, .val (.long m'), .second, .unset, .unset, .unset, .unset, .unset, .unset, .unset] [(.long l'), (.long f), (.ref r1), (.ref r1)])) (fun t k => XS.lload X9.here hx rfl (hb hby at_77) rfl k) ?_
    obtain ⟨_, _, ⟨T10, L10, k10, n10⟩, -, X10, ⟨Lc10, hQ10, l10, y10, z10⟩, st10⟩ := X9.specialBack hx (y := (⟨"com/example/enact/enact/ByteRange", "<init>", "(JJ)V"⟩ : MethodName)) rfl hown (mvT hZ (hw _ (List.mem_of_getElem? (i := 16) rfl))) (mvT hZ (hw _ (List.mem_of_getElem? (i := 17) rfl))) (mvT hZ (hw _ (List.mem_of_getElem? (i := 18) rfl))) (by decide) (backOf (W := 1) (rm5 l Z a0 hw [] r1 f l' _ _ h9 n0 Zn9 A_r1 (D_r1 (Or.inr (hw _ (List.mem_of_getElem? (i := 28) rfl))) (ty := .long) (by decide)) (D_r1 (Or.inr (hw _ (List.mem_of_getElem? (i := 30) rfl))) (ty := .long) (by decide)) (Nat.le_trans (Z0) (Nat.le_of_eq g_r1.symm))) hZ (hw _ (List.mem_of_getElem? (i := 18) rfl)) (hw _ (List.mem_of_getElem? (i := 15) rfl)) (by decide) (by decide)) (g := (mkF m 79 #[.val (.long q1), .second, .val (.long q2), .second, .val (.long q3), .second, .val (.long x), .second, .val (.long y), .second, .val (.long z), .second, .val (.long f), .second, .val (.long l'), .second, .val (.long m'), .second, .unset, .unset, .unset, .unset, .unset, .unset, .unset] [(.long l'), (.long f), (.ref r1), (.ref r1)])) rfl (by rw [hml]; rfl) (Steps.refl _) (a := r1) (argsL := [(.long f), (.long l')]) (rest := [(.ref r1)]) (lenOf pd_5 rfl) rfl (by show 2 * 0 + _ ≤ _; exact Nat.le_of_eq rfl) (hb hby at_79) (fun _ _ => ⟨rfl, e9, (by decide : 1 + 0 ≤ _), (by decide : 2 + 0 ≤ _)⟩)
    dsimp only [Pt.U, Pt.locs, Pt.cells, Pt.slots] at X10 l10 y10 z10 st10 hQ10
    subst l10 y10 z10
    obtain ⟨rfl, N10q, Kc10, Ec10, Fa10, Fb10⟩ := hQ10
    have N10 := Fr.app N8 N10q
    refine Goes.step (S' := T10.setTop (mkF m 82 #[.val (.long q1), .second, .val (.long q2), .second, .val (.long q3), .second, .val (.long x), .second, .val (.long y), .second, .val (.long z), .second, .val (.long f), .second, .val (.long l'), .second, .val (.long m'), .second, .unset, .unset, .unset, .unset, .unset, .unset, .unset] [(.ref r1)])) (fun t k => st10.trans k) ?_
    have Zc10 : n0 ≤ T10.heap.size := Nat.le_trans Zn9 Kc10.1
    obtain ⟨cq11, kq11, q11a, q11b, q11c⟩ := isOf hZ rfl Ec10
    obtain ⟨_, _, ⟨T11, L11, k11, n11⟩, -, X11, ⟨Lc11, hQ11, l11, y11, z11⟩, st11⟩ := X10.virtualBack hx (y := (⟨"com/example/enact/enact/ByteRange", "length", "()J"⟩ : MethodName)) (z := (⟨"com/example/enact/enact/ByteRange", "length", "()J"⟩ : MethodName)) hown (mvT hZ (hw _ (List.mem_of_getElem? (i := 31) rfl))) (mvT hZ (hw _ (List.mem_of_getElem? (i := 32) rfl))) (notFace_of_selects (args := #[]) (mvT hZ (hw _ (List.mem_of_getElem? (i := 34) rfl)))) (mvT hZ (hw _ (List.mem_of_getElem? (i := 34) rfl))) (mvT hZ (hw _ (List.mem_of_getElem? (i := 33) rfl))) (by decide) (backOf (W := 0) (rm6 l Z a0 hw [] r1 f l' T10.heap n0 Zc10 Fa10 Fb10) hZ (hw _ (List.mem_of_getElem? (i := 35) rfl)) (hw _ (List.mem_of_getElem? (i := 15) rfl)) (by decide) (by decide)) q11a q11c (g := (mkF m 82 #[.val (.long q1), .second, .val (.long q2), .second, .val (.long q3), .second, .val (.long x), .second, .val (.long y), .second, .val (.long z), .second, .val (.long f), .second, .val (.long l'), .second, .val (.long m'), .second, .unset, .unset, .unset, .unset, .unset, .unset, .unset] [(.ref r1)])) rfl (by rw [hml]; rfl) (Steps.refl _) (argsL := []) (rest := []) (lenOf pd_6 rfl) rfl (by show 2 * 0 + _ ≤ _; exact Nat.le_of_eq rfl) (hb hby at_82) (fun _ _ => ⟨rfl, rfl, (by decide : 1 + 0 ≤ _), (by decide : 2 + 0 ≤ _)⟩)
    dsimp only [Pt.U, Pt.locs, Pt.cells, Pt.slots] at X11 l11 y11 z11 st11 hQ11
    subst l11 y11 z11
    obtain ⟨rfl, N11q, e11⟩ := hQ11
    have N11 := Fr.app N10 N11q
    refine Goes.step (S' := T11.setTop (mkF m 85 #[.val (.long q1), .second, .val (.long q2), .second, .val (.long q3), .second, .val (.long x), .second, .val (.long y), .second, .val (.long z), .second, .val (.long f), .second, .val (.long l'), .second, .val (.long m'), .second, .unset, .unset, .unset, .unset, .unset, .unset, .unset] [(.long ((l' - f) + (1 : Int64)))])) (fun t k => st11.trans k) ?_
    refine Goes.step (S' := T11.setTop (mkF m 87 #[.val (.long q1), .second, .val (.long q2), .second, .val (.long q3), .second, .val (.long x), .second, .val (.long y), .second, .val (.long z), .second, .val (.long f), .second, .val (.long l'), .second, .val (.long m'), .second, .val (.long ((l' - f) + (1 : Int64))), .second, .unset, .unset, .unset, .unset, .unset] [])) (fun t k => XS.lstore X11.here hx rfl (hb hby at_85) rfl (l' := #[.val (.long q1), .second, .val (.long q2), .second, .val (.long q3), .second, .val (.long x), .second, .val (.long y), .second, .val (.long z), .second, .val (.long f), .second, .val (.long l'), .second, .val (.long m'), .second, .val (.long ((l' - f) + (1 : Int64))), .second, .unset, .unset, .unset, .unset, .unset]) rfl k) ?_
    have hfl : f.toInt ≤ l'.toInt := Int.le_trans hfm hml'
    obtain ⟨T12, h12, X12, e12, E12, A_r2, D_r2, -, st12⟩ := newO X11 hx hZ hown (hw _ (List.mem_of_getElem? (i := 13) rfl)) (hw _ (List.mem_of_getElem? (i := 14) rfl)) (hw _ (List.mem_of_getElem? (i := 15) rfl)) e11 (g := (mkF m 87 #[.val (.long q1), .second, .val (.long q2), .second, .val (.long q3), .second, .val (.long x), .second, .val (.long y), .second, .val (.long z), .second, .val (.long f), .second, .val (.long l'), .second, .val (.long m'), .second, .val (.long ((l' - f) + (1 : Int64))), .second, .unset, .unset, .unset, .unset, .unset] [])) rfl (hb hby at_87) (by decide) (by decide)
    obtain ⟨r2, g_r2⟩ : ∃ z, z = T10.heap.size := ⟨_, rfl⟩
    rw [← g_r2] at A_r2 D_r2 st12
    refine Goes.step (S' := T12.setTop (mkF m 90 #[.val (.long q1), .second, .val (.long q2), .second, .val (.long q3), .second, .val (.long x), .second, .val (.long y), .second, .val (.long z), .second, .val (.long f), .second, .val (.long l'), .second, .val (.long m'), .second, .val (.long ((l' - f) + (1 : Int64))), .second, .unset, .unset, .unset, .unset, .unset] [(.ref r2)])) (fun t k => st12 t k) ?_
    have Zn12 : n0 ≤ h12.size := Nat.le_trans (Zc10) E12.1
    refine Goes.step (S' := T12.setTop (mkF m 91 #[.val (.long q1), .second, .val (.long q2), .second, .val (.long q3), .second, .val (.long x), .second, .val (.long y), .second, .val (.long z), .second, .val (.long f), .second, .val (.long l'), .second, .val (.long m'), .second, .val (.long ((l' - f) + (1 : Int64))), .second, .unset, .unset, .unset, .unset, .unset] [(.ref r2), (.ref r2)])) (fun t k => XS.dup X12.here hx rfl (hb hby at_90) rfl rfl k) ?_
    refine Goes.step (S' := T12.setTop (mkF m 93 #[.val (.long q1), .second, .val (.long q2), .second, .val (.long q3), .second, .val (.long x), .second, .val (.long y), .second, .val (.long z), .second, .val (.long f), .second, .val (.long l'), .second, .val (.long m'), .second, .val (.long ((l' - f) + (1 : Int64))), .second, .unset, .unset, .unset, .unset, .unset] [(.long f), (.ref r2), (.ref r2)])) (fun t k => XS.lload X12.here hx rfl (hb hby at_91) rfl k) ?_
    refine Goes.step (S' := T12.setTop (mkF m 95 #[.val (.long q1), .second, .val (.long q2), .second, .val (.long q3), .second, .val (.long x), .second, .val (.long y), .second, .val (.long z), .second, .val (.long f), .second, .val (.long l'), .second, .val (.long m'), .second, .val (.long ((l' - f) + (1 : Int64))), .second, .unset, .unset, .unset, .unset, .unset] [(.long f), (.long f), (.ref r2), (.ref r2)])) (fun t k => XS.lload X12.here hx rfl (hb hby at_93) rfl k) ?_
    obtain ⟨_, _, ⟨T13, L13, k13, n13⟩, -, X13, ⟨Lc13, hQ13, l13, y13, z13⟩, st13⟩ := X12.specialBack hx (y := (⟨"com/example/enact/enact/ByteRange", "<init>", "(JJ)V"⟩ : MethodName)) rfl hown (mvT hZ (hw _ (List.mem_of_getElem? (i := 16) rfl))) (mvT hZ (hw _ (List.mem_of_getElem? (i := 17) rfl))) (mvT hZ (hw _ (List.mem_of_getElem? (i := 18) rfl))) (by decide) (backOf (W := 1) (rm5 l Z a0 hw [] r2 f f _ _ h12 n0 Zn12 A_r2 (D_r2 (Or.inr (hw _ (List.mem_of_getElem? (i := 28) rfl))) (ty := .long) (by decide)) (D_r2 (Or.inr (hw _ (List.mem_of_getElem? (i := 30) rfl))) (ty := .long) (by decide)) (Nat.le_trans (Zc10) (Nat.le_of_eq g_r2.symm))) hZ (hw _ (List.mem_of_getElem? (i := 18) rfl)) (hw _ (List.mem_of_getElem? (i := 15) rfl)) (by decide) (by decide)) (g := (mkF m 95 #[.val (.long q1), .second, .val (.long q2), .second, .val (.long q3), .second, .val (.long x), .second, .val (.long y), .second, .val (.long z), .second, .val (.long f), .second, .val (.long l'), .second, .val (.long m'), .second, .val (.long ((l' - f) + (1 : Int64))), .second, .unset, .unset, .unset, .unset, .unset] [(.long f), (.long f), (.ref r2), (.ref r2)])) rfl (by rw [hml]; rfl) (Steps.refl _) (a := r2) (argsL := [(.long f), (.long f)]) (rest := [(.ref r2)]) (lenOf pd_5 rfl) rfl (by show 2 * 0 + _ ≤ _; exact Nat.le_of_eq rfl) (hb hby at_95) (fun _ _ => ⟨rfl, e12, (by decide : 2 + 0 ≤ _), (by decide : 4 + 0 ≤ _)⟩)
    dsimp only [Pt.U, Pt.locs, Pt.cells, Pt.slots] at X13 l13 y13 z13 st13 hQ13
    subst l13 y13 z13
    obtain ⟨rfl, N13q, Kc13, Ec13, Fa13, Fb13⟩ := hQ13
    have N13 := Fr.app N11 N13q
    refine Goes.step (S' := T13.setTop (mkF m 98 #[.val (.long q1), .second, .val (.long q2), .second, .val (.long q3), .second, .val (.long x), .second, .val (.long y), .second, .val (.long z), .second, .val (.long f), .second, .val (.long l'), .second, .val (.long m'), .second, .val (.long ((l' - f) + (1 : Int64))), .second, .unset, .unset, .unset, .unset, .unset] [(.ref r2)])) (fun t k => st13.trans k) ?_
    have Zc13 : n0 ≤ T13.heap.size := Nat.le_trans Zn12 Kc13.1
    obtain ⟨cq14, kq14, q14a, q14b, q14c⟩ := isOf hZ rfl Ec13
    obtain ⟨_, _, ⟨T14, L14, k14, n14⟩, -, X14, ⟨Lc14, hQ14, l14, y14, z14⟩, st14⟩ := X13.virtualBack hx (y := (⟨"com/example/enact/enact/ByteRange", "length", "()J"⟩ : MethodName)) (z := (⟨"com/example/enact/enact/ByteRange", "length", "()J"⟩ : MethodName)) hown (mvT hZ (hw _ (List.mem_of_getElem? (i := 31) rfl))) (mvT hZ (hw _ (List.mem_of_getElem? (i := 32) rfl))) (notFace_of_selects (args := #[]) (mvT hZ (hw _ (List.mem_of_getElem? (i := 34) rfl)))) (mvT hZ (hw _ (List.mem_of_getElem? (i := 34) rfl))) (mvT hZ (hw _ (List.mem_of_getElem? (i := 33) rfl))) (by decide) (backOf (W := 0) (rm6 l Z a0 hw [] r2 f f T13.heap n0 Zc13 Fa13 Fb13) hZ (hw _ (List.mem_of_getElem? (i := 35) rfl)) (hw _ (List.mem_of_getElem? (i := 15) rfl)) (by decide) (by decide)) q14a q14c (g := (mkF m 98 #[.val (.long q1), .second, .val (.long q2), .second, .val (.long q3), .second, .val (.long x), .second, .val (.long y), .second, .val (.long z), .second, .val (.long f), .second, .val (.long l'), .second, .val (.long m'), .second, .val (.long ((l' - f) + (1 : Int64))), .second, .unset, .unset, .unset, .unset, .unset] [(.ref r2)])) rfl (by rw [hml]; rfl) (Steps.refl _) (argsL := []) (rest := []) (lenOf pd_6 rfl) rfl (by show 2 * 0 + _ ≤ _; exact Nat.le_of_eq rfl) (hb hby at_98) (fun _ _ => ⟨rfl, rfl, (by decide : 2 + 0 ≤ _), (by decide : 4 + 0 ≤ _)⟩)
    dsimp only [Pt.U, Pt.locs, Pt.cells, Pt.slots] at X14 l14 y14 z14 st14 hQ14
    subst l14 y14 z14
    obtain ⟨rfl, N14q, e14⟩ := hQ14
    have N14 := Fr.app N13 N14q
    refine Goes.step (S' := T14.setTop (mkF m 101 #[.val (.long q1), .second, .val (.long q2), .second, .val (.long q3), .second, .val (.long x), .second, .val (.long y), .second, .val (.long z), .second, .val (.long f), .second, .val (.long l'), .second, .val (.long m'), .second, .val (.long ((l' - f) + (1 : Int64))), .second, .unset, .unset, .unset, .unset, .unset] [(.long ((f - f) + (1 : Int64)))])) (fun t k => st14.trans k) ?_
    refine Goes.step (S' := T14.setTop (mkF m 102 #[.val (.long q1), .second, .val (.long q2), .second, .val (.long q3), .second, .val (.long x), .second, .val (.long y), .second, .val (.long z), .second, .val (.long f), .second, .val (.long l'), .second, .val (.long m'), .second, .val (.long ((l' - f) + (1 : Int64))), .second, .unset, .unset, .unset, .unset, .unset] [(.long (1 : Int64)), (.long ((f - f) + (1 : Int64)))])) (fun t k => XS.lconst X14.here hx rfl (hb hby at_101) k) ?_
    refine Goes.step (S' := T14.setTop (mkF m 103 #[.val (.long q1), .second, .val (.long q2), .second, .val (.long q3), .second, .val (.long x), .second, .val (.long y), .second, .val (.long z), .second, .val (.long f), .second, .val (.long l'), .second, .val (.long m'), .second, .val (.long ((l' - f) + (1 : Int64))), .second, .unset, .unset, .unset, .unset, .unset] [(.int (lcmpW ((f - f) + (1 : Int64)) (1 : Int64)))])) (fun t k => XS.lcmp X14.here hx rfl (hb hby at_102) rfl k) ?_
    refine Goes.step (S' := T14.setTop (mkF m 106 #[.val (.long q1), .second, .val (.long q2), .second, .val (.long q3), .second, .val (.long x), .second, .val (.long y), .second, .val (.long z), .second, .val (.long f), .second, .val (.long l'), .second, .val (.long m'), .second, .val (.long ((l' - f) + (1 : Int64))), .second, .unset, .unset, .unset, .unset, .unset] [])) (fun t k => XS.ifNo X14.here hx rfl (hb hby at_103) rfl ((if0 _ _).trans (teq (own_lc0 (own_one f hf (Int.le_trans hfl hl)))).2) k) ?_
    obtain ⟨T15, h15, X15, e15, E15, A_r3, D_r3, -, st15⟩ := newO X14 hx hZ hown (hw _ (List.mem_of_getElem? (i := 13) rfl)) (hw _ (List.mem_of_getElem? (i := 14) rfl)) (hw _ (List.mem_of_getElem? (i := 15) rfl)) e14 (g := (mkF m 106 #[.val (.long q1), .second, .val (.long q2), .second, .val (.long q3), .second, .val (.long x), .second, .val (.long y), .second, .val (.long z), .second, .val (.long f), .second, .val (.long l'), .second, .val (.long m'), .second, .val (.long ((l' - f) + (1 : Int64))), .second, .unset, .unset, .unset, .unset, .unset] [])) rfl (hb hby at_106) (by decide) (by decide)
    obtain ⟨r3, g_r3⟩ : ∃ z, z = T13.heap.size := ⟨_, rfl⟩
    rw [← g_r3] at A_r3 D_r3 st15
    refine Goes.step (S' := T15.setTop (mkF m 109 #[.val (.long q1), .second, .val (.long q2), .second, .val (.long q3), .second, .val (.long x), .second, .val (.long y), .second, .val (.long z), .second, .val (.long f), .second, .val (.long l'), .second, .val (.long m'), .second, .val (.long ((l' - f) + (1 : Int64))), .second, .unset, .unset, .unset, .unset, .unset] [(.ref r3)])) (fun t k => st15 t k) ?_
    have Zn15 : n0 ≤ h15.size := Nat.le_trans (Zc13) E15.1
    refine Goes.step (S' := T15.setTop (mkF m 110 #[.val (.long q1), .second, .val (.long q2), .second, .val (.long q3), .second, .val (.long x), .second, .val (.long y), .second, .val (.long z), .second, .val (.long f), .second, .val (.long l'), .second, .val (.long m'), .second, .val (.long ((l' - f) + (1 : Int64))), .second, .unset, .unset, .unset, .unset, .unset] [(.ref r3), (.ref r3)])) (fun t k => XS.dup X15.here hx rfl (hb hby at_109) rfl rfl k) ?_
    refine Goes.step (S' := T15.setTop (mkF m 112 #[.val (.long q1), .second, .val (.long q2), .second, .val (.long q3), .second, .val (.long x), .second, .val (.long y), .second, .val (.long z), .second, .val (.long f), .second, .val (.long l'), .second, .val (.long m'), .second, .val (.long ((l' - f) + (1 : Int64))), .second, .unset, .unset, .unset, .unset, .unset] [(.long l'), (.ref r3), (.ref r3)])) (fun t k => XS.lload X15.here hx rfl (hb hby at_110) rfl k) ?_
    refine Goes.step (S' := T15.setTop (mkF m 114 #[.val (.long q1), .second, .val (.long q2), .second, .val (.long q3), .second, .val (.long x), .second, .val (.long y), .second, .val (.long z), .second, .val (.long f), .second, .val (.long l'), .second, .val (.long m'), .second, .val (.long ((l' - f) + (1 : Int64))), .second, .unset, .unset, .unset, .unset, .unset] [(.long l'), (.long l'), (.ref r3), (.ref r3)])) (fun t k => XS.lload X15.here hx rfl (hb hby at_112) rfl k) ?_
    obtain ⟨_, _, ⟨T16, L16, k16, n16⟩, -, X16, ⟨Lc16, hQ16, l16, y16, z16⟩, st16⟩ := X15.specialBack hx (y := (⟨"com/example/enact/enact/ByteRange", "<init>", "(JJ)V"⟩ : MethodName)) rfl hown (mvT hZ (hw _ (List.mem_of_getElem? (i := 16) rfl))) (mvT hZ (hw _ (List.mem_of_getElem? (i := 17) rfl))) (mvT hZ (hw _ (List.mem_of_getElem? (i := 18) rfl))) (by decide) (backOf (W := 1) (rm5 l Z a0 hw [] r3 l' l' _ _ h15 n0 Zn15 A_r3 (D_r3 (Or.inr (hw _ (List.mem_of_getElem? (i := 28) rfl))) (ty := .long) (by decide)) (D_r3 (Or.inr (hw _ (List.mem_of_getElem? (i := 30) rfl))) (ty := .long) (by decide)) (Nat.le_trans (Zc13) (Nat.le_of_eq g_r3.symm))) hZ (hw _ (List.mem_of_getElem? (i := 18) rfl)) (hw _ (List.mem_of_getElem? (i := 15) rfl)) (by decide) (by decide)) (g := (mkF m 114 #[.val (.long q1), .second, .val (.long q2), .second, .val (.long q3), .second, .val (.long x), .second, .val (.long y), .second, .val (.long z), .second, .val (.long f), .second, .val (.long l'), .second, .val (.long m'), .second, .val (.long ((l' - f) + (1 : Int64))), .second, .unset, .unset, .unset, .unset, .unset] [(.long l'), (.long l'), (.ref r3), (.ref r3)])) rfl (by rw [hml]; rfl) (Steps.refl _) (a := r3) (argsL := [(.long l'), (.long l')]) (rest := [(.ref r3)]) (lenOf pd_5 rfl) rfl (by show 2 * 0 + _ ≤ _; exact Nat.le_of_eq rfl) (hb hby at_114) (fun _ _ => ⟨rfl, e15, (by decide : 3 + 0 ≤ _), (by decide : 6 + 0 ≤ _)⟩)
    dsimp only [Pt.U, Pt.locs, Pt.cells, Pt.slots] at X16 l16 y16 z16 st16 hQ16
    subst l16 y16 z16
    obtain ⟨rfl, N16q, Kc16, Ec16, Fa16, Fb16⟩ := hQ16
    have N16 := Fr.app N14 N16q
    refine Goes.step (S' := T16.setTop (mkF m 117 #[.val (.long q1), .second, .val (.long q2), .second, .val (.long q3), .second, .val (.long x), .second, .val (.long y), .second, .val (.long z), .second, .val (.long f), .second, .val (.long l'), .second, .val (.long m'), .second, .val (.long ((l' - f) + (1 : Int64))), .second, .unset, .unset, .unset, .unset, .unset] [(.ref r3)])) (fun t k => st16.trans k) ?_
    have Zc16 : n0 ≤ T16.heap.size := Nat.le_trans Zn15 Kc16.1
    obtain ⟨cq17, kq17, q17a, q17b, q17c⟩ := isOf hZ rfl Ec16
    obtain ⟨_, _, ⟨T17, L17, k17, n17⟩, -, X17, ⟨Lc17, hQ17, l17, y17, z17⟩, st17⟩ := X16.virtualBack hx (y := (⟨"com/example/enact/enact/ByteRange", "length", "()J"⟩ : MethodName)) (z := (⟨"com/example/enact/enact/ByteRange", "length", "()J"⟩ : MethodName)) hown (mvT hZ (hw _ (List.mem_of_getElem? (i := 31) rfl))) (mvT hZ (hw _ (List.mem_of_getElem? (i := 32) rfl))) (notFace_of_selects (args := #[]) (mvT hZ (hw _ (List.mem_of_getElem? (i := 34) rfl)))) (mvT hZ (hw _ (List.mem_of_getElem? (i := 34) rfl))) (mvT hZ (hw _ (List.mem_of_getElem? (i := 33) rfl))) (by decide) (backOf (W := 0) (rm6 l Z a0 hw [] r3 l' l' T16.heap n0 Zc16 Fa16 Fb16) hZ (hw _ (List.mem_of_getElem? (i := 35) rfl)) (hw _ (List.mem_of_getElem? (i := 15) rfl)) (by decide) (by decide)) q17a q17c (g := (mkF m 117 #[.val (.long q1), .second, .val (.long q2), .second, .val (.long q3), .second, .val (.long x), .second, .val (.long y), .second, .val (.long z), .second, .val (.long f), .second, .val (.long l'), .second, .val (.long m'), .second, .val (.long ((l' - f) + (1 : Int64))), .second, .unset, .unset, .unset, .unset, .unset] [(.ref r3)])) rfl (by rw [hml]; rfl) (Steps.refl _) (argsL := []) (rest := []) (lenOf pd_6 rfl) rfl (by show 2 * 0 + _ ≤ _; exact Nat.le_of_eq rfl) (hb hby at_117) (fun _ _ => ⟨rfl, rfl, (by decide : 3 + 0 ≤ _), (by decide : 6 + 0 ≤ _)⟩)
    dsimp only [Pt.U, Pt.locs, Pt.cells, Pt.slots] at X17 l17 y17 z17 st17 hQ17
    subst l17 y17 z17
    obtain ⟨rfl, N17q, e17⟩ := hQ17
    have N17 := Fr.app N16 N17q
    refine Goes.step (S' := T17.setTop (mkF m 120 #[.val (.long q1), .second, .val (.long q2), .second, .val (.long q3), .second, .val (.long x), .second, .val (.long y), .second, .val (.long z), .second, .val (.long f), .second, .val (.long l'), .second, .val (.long m'), .second, .val (.long ((l' - f) + (1 : Int64))), .second, .unset, .unset, .unset, .unset, .unset] [(.long ((l' - l') + (1 : Int64)))])) (fun t k => st17.trans k) ?_
    refine Goes.step (S' := T17.setTop (mkF m 121 #[.val (.long q1), .second, .val (.long q2), .second, .val (.long q3), .second, .val (.long x), .second, .val (.long y), .second, .val (.long z), .second, .val (.long f), .second, .val (.long l'), .second, .val (.long m'), .second, .val (.long ((l' - f) + (1 : Int64))), .second, .unset, .unset, .unset, .unset, .unset] [(.long (1 : Int64)), (.long ((l' - l') + (1 : Int64)))])) (fun t k => XS.lconst X17.here hx rfl (hb hby at_120) k) ?_
    refine Goes.step (S' := T17.setTop (mkF m 122 #[.val (.long q1), .second, .val (.long q2), .second, .val (.long q3), .second, .val (.long x), .second, .val (.long y), .second, .val (.long z), .second, .val (.long f), .second, .val (.long l'), .second, .val (.long m'), .second, .val (.long ((l' - f) + (1 : Int64))), .second, .unset, .unset, .unset, .unset, .unset] [(.int (lcmpW ((l' - l') + (1 : Int64)) (1 : Int64)))])) (fun t k => XS.lcmp X17.here hx rfl (hb hby at_121) rfl k) ?_
    refine Goes.step (S' := T17.setTop (mkF m 125 #[.val (.long q1), .second, .val (.long q2), .second, .val (.long q3), .second, .val (.long x), .second, .val (.long y), .second, .val (.long z), .second, .val (.long f), .second, .val (.long l'), .second, .val (.long m'), .second, .val (.long ((l' - f) + (1 : Int64))), .second, .unset, .unset, .unset, .unset, .unset] [])) (fun t k => XS.ifNo X17.here hx rfl (hb hby at_122) rfl ((if0 _ _).trans (teq (own_lc0 (own_one l' (Int.le_trans hf hfl) hl))).2) k) ?_
    refine Goes.step (S' := T17.setTop (mkF m 127 #[.val (.long q1), .second, .val (.long q2), .second, .val (.long q3), .second, .val (.long x), .second, .val (.long y), .second, .val (.long z), .second, .val (.long f), .second, .val (.long l'), .second, .val (.long m'), .second, .val (.long ((l' - f) + (1 : Int64))), .second, .unset, .unset, .unset, .unset, .unset] [(.long ((l' - f) + (1 : Int64)))])) (fun t k => XS.lload X17.here hx rfl (hb hby at_125) rfl k) ?_
    refine Goes.step (S' := T17.setTop (mkF m 128 #[.val (.long q1), .second, .val (.long q2), .second, .val (.long q3), .second, .val (.long x), .second, .val (.long y), .second, .val (.long z), .second, .val (.long f), .second, .val (.long l'), .second, .val (.long m'), .second, .val (.long ((l' - f) + (1 : Int64))), .second, .unset, .unset, .unset, .unset, .unset] [(.long (1 : Int64)), (.long ((l' - f) + (1 : Int64)))])) (fun t k => XS.lconst X17.here hx rfl (hb hby at_127) k) ?_
    refine Goes.step (S' := T17.setTop (mkF m 129 #[.val (.long q1), .second, .val (.long q2), .second, .val (.long q3), .second, .val (.long x), .second, .val (.long y), .second, .val (.long z), .second, .val (.long f), .second, .val (.long l'), .second, .val (.long m'), .second, .val (.long ((l' - f) + (1 : Int64))), .second, .unset, .unset, .unset, .unset, .unset] [(.int (lcmpW ((l' - f) + (1 : Int64)) (1 : Int64)))])) (fun t k => XS.lcmp X17.here hx rfl (hb hby at_128) rfl k) ?_
    refine Goes.step (S' := T17.setTop (mkF m 132 #[.val (.long q1), .second, .val (.long q2), .second, .val (.long q3), .second, .val (.long x), .second, .val (.long y), .second, .val (.long z), .second, .val (.long f), .second, .val (.long l'), .second, .val (.long m'), .second, .val (.long ((l' - f) + (1 : Int64))), .second, .unset, .unset, .unset, .unset, .unset] [])) (fun t k => XS.ifNo X17.here hx rfl (hb hby at_129) rfl ((if0 _ _).trans (flt (own_lc_nlt (own_ge hf hfl hl))).1) k) ?_
    refine Goes.step (S' := T17.setTop (mkF m 134 #[.val (.long q1), .second, .val (.long q2), .second, .val (.long q3), .second, .val (.long x), .second, .val (.long y), .second, .val (.long z), .second, .val (.long f), .second, .val (.long l'), .second, .val (.long m'), .second, .val (.long ((l' - f) + (1 : Int64))), .second, .unset, .unset, .unset, .unset, .unset] [(.long ((l' - f) + (1 : Int64)))])) (fun t k => XS.lload X17.here hx rfl (hb hby at_132) rfl k) ?_
    refine Goes.step (S' := T17.setTop (mkF m 136 #[.val (.long q1), .second, .val (.long q2), .second, .val (.long q3), .second, .val (.long x), .second, .val (.long y), .second, .val (.long z), .second, .val (.long f), .second, .val (.long l'), .second, .val (.long m'), .second, .val (.long ((l' - f) + (1 : Int64))), .second, .unset, .unset, .unset, .unset, .unset] [(.long l'), (.long ((l' - f) + (1 : Int64)))])) (fun t k => XS.lload X17.here hx rfl (hb hby at_134) rfl k) ?_
    refine Goes.step (S' := T17.setTop (mkF m 137 #[.val (.long q1), .second, .val (.long q2), .second, .val (.long q3), .second, .val (.long x), .second, .val (.long y), .second, .val (.long z), .second, .val (.long f), .second, .val (.long l'), .second, .val (.long m'), .second, .val (.long ((l' - f) + (1 : Int64))), .second, .unset, .unset, .unset, .unset, .unset] [(.long (1 : Int64)), (.long l'), (.long ((l' - f) + (1 : Int64)))])) (fun t k => XS.lconst X17.here hx rfl (hb hby at_136) k) ?_
    refine Goes.step (S' := T17.setTop (mkF m 138 #[.val (.long q1), .second, .val (.long q2), .second, .val (.long q3), .second, .val (.long x), .second, .val (.long y), .second, .val (.long z), .second, .val (.long f), .second, .val (.long l'), .second, .val (.long m'), .second, .val (.long ((l' - f) + (1 : Int64))), .second, .unset, .unset, .unset, .unset, .unset] [(.long (l' + (1 : Int64))), (.long ((l' - f) + (1 : Int64)))])) (fun t k => XS.ladd X17.here hx rfl (hb hby at_137) rfl k) ?_
    refine Goes.step (S' := T17.setTop (mkF m 139 #[.val (.long q1), .second, .val (.long q2), .second, .val (.long q3), .second, .val (.long x), .second, .val (.long y), .second, .val (.long z), .second, .val (.long f), .second, .val (.long l'), .second, .val (.long m'), .second, .val (.long ((l' - f) + (1 : Int64))), .second, .unset, .unset, .unset, .unset, .unset] [(.int (lcmpW ((l' - f) + (1 : Int64)) (l' + (1 : Int64))))])) (fun t k => XS.lcmp X17.here hx rfl (hb hby at_138) rfl k) ?_
    refine Goes.step (S' := T17.setTop (mkF m 142 #[.val (.long q1), .second, .val (.long q2), .second, .val (.long q3), .second, .val (.long x), .second, .val (.long y), .second, .val (.long z), .second, .val (.long f), .second, .val (.long l'), .second, .val (.long m'), .second, .val (.long ((l' - f) + (1 : Int64))), .second, .unset, .unset, .unset, .unset, .unset] [])) (fun t k => XS.ifNo X17.here hx rfl (hb hby at_139) rfl ((if0 _ _).trans (flt (own_lc_ngt (own_le hf hfl hl))).2.2.1) k) ?_
    refine Goes.step (S' := T17.setTop (mkF m 143 #[.val (.long q1), .second, .val (.long q2), .second, .val (.long q3), .second, .val (.long x), .second, .val (.long y), .second, .val (.long z), .second, .val (.long f), .second, .val (.long l'), .second, .val (.long m'), .second, .val (.long ((l' - f) + (1 : Int64))), .second, .unset, .unset, .unset, .unset, .unset] [(.int (1 : Int32))])) (fun t k => XS.iconst X17.here hx rfl (hb hby at_142) k) ?_
    refine Goes.step (S' := T17.setTop (mkF m 147 #[.val (.long q1), .second, .val (.long q2), .second, .val (.long q3), .second, .val (.long x), .second, .val (.long y), .second, .val (.long z), .second, .val (.long f), .second, .val (.long l'), .second, .val (.long m'), .second, .val (.long ((l' - f) + (1 : Int64))), .second, .unset, .unset, .unset, .unset, .unset] [(.int (1 : Int32))])) (fun t k => XS.goto X17.here hx rfl (pc0 := 143) (pc' := 147) rfl (hb hby at_143) (by decide) (by decide) k) ?_
    refine Goes.step (S' := T17.setTop (mkF m 149 #[.val (.long q1), .second, .val (.long q2), .second, .val (.long q3), .second, .val (.long x), .second, .val (.long y), .second, .val (.long z), .second, .val (.long f), .second, .val (.long l'), .second, .val (.long m'), .second, .val (.long ((l' - f) + (1 : Int64))), .second, .val (.int (1 : Int32)), .unset, .unset, .unset, .unset] [])) (fun t k => XS.istore X17.here hx rfl (hb hby at_147) rfl (l' := #[.val (.long q1), .second, .val (.long q2), .second, .val (.long q3), .second, .val (.long x), .second, .val (.long y), .second, .val (.long z), .second, .val (.long f), .second, .val (.long l'), .second, .val (.long m'), .second, .val (.long ((l' - f) + (1 : Int64))), .second, .val (.int (1 : Int32)), .unset, .unset, .unset, .unset]) rfl k) ?_
    refine Goes.step (S' := T17.setTop (mkF m 151 #[.val (.long q1), .second, .val (.long q2), .second, .val (.long q3), .second, .val (.long x), .second, .val (.long y), .second, .val (.long z), .second, .val (.long f), .second, .val (.long l'), .second, .val (.long m'), .second, .val (.long ((l' - f) + (1 : Int64))), .second, .val (.int (1 : Int32)), .unset, .unset, .unset, .unset] [(.long m')])) (fun t k => XS.lload X17.here hx rfl (hb hby at_149) rfl k) ?_
    refine Goes.step (S' := T17.setTop (mkF m 153 #[.val (.long q1), .second, .val (.long q2), .second, .val (.long q3), .second, .val (.long x), .second, .val (.long y), .second, .val (.long z), .second, .val (.long f), .second, .val (.long l'), .second, .val (.long m'), .second, .val (.long ((l' - f) + (1 : Int64))), .second, .val (.int (1 : Int32)), .unset, .unset, .unset, .unset] [(.long l'), (.long m')])) (fun t k => XS.lload X17.here hx rfl (hb hby at_151) rfl k) ?_
    refine Goes.step (S' := T17.setTop (mkF m 154 #[.val (.long q1), .second, .val (.long q2), .second, .val (.long q3), .second, .val (.long x), .second, .val (.long y), .second, .val (.long z), .second, .val (.long f), .second, .val (.long l'), .second, .val (.long m'), .second, .val (.long ((l' - f) + (1 : Int64))), .second, .val (.int (1 : Int32)), .unset, .unset, .unset, .unset] [(.int (lcmpW m' l'))])) (fun t k => XS.lcmp X17.here hx rfl (hb hby at_153) rfl k) ?_
    by_cases c1 : m' < l'
    · refine Goes.step (S' := T17.setTop (mkF m 157 #[.val (.long q1), .second, .val (.long q2), .second, .val (.long q3), .second, .val (.long x), .second, .val (.long y), .second, .val (.long z), .second, .val (.long f), .second, .val (.long l'), .second, .val (.long m'), .second, .val (.long ((l' - f) + (1 : Int64))), .second, .val (.int (1 : Int32)), .unset, .unset, .unset, .unset] [])) (fun t k => XS.ifNo X17.here hx rfl (hb hby at_154) rfl ((if0 _ _).trans (tlt (own_lc_lt c1)).2.1) k) ?_
      obtain ⟨T18, h18, X18, e18, E18, A_r4, D_r4, -, st18⟩ := newO X17 hx hZ hown (hw _ (List.mem_of_getElem? (i := 13) rfl)) (hw _ (List.mem_of_getElem? (i := 14) rfl)) (hw _ (List.mem_of_getElem? (i := 15) rfl)) e17 (g := (mkF m 157 #[.val (.long q1), .second, .val (.long q2), .second, .val (.long q3), .second, .val (.long x), .second, .val (.long y), .second, .val (.long z), .second, .val (.long f), .second, .val (.long l'), .second, .val (.long m'), .second, .val (.long ((l' - f) + (1 : Int64))), .second, .val (.int (1 : Int32)), .unset, .unset, .unset, .unset] [])) rfl (hb hby at_157) (by decide) (by decide)
      obtain ⟨r4, g_r4⟩ : ∃ z, z = T16.heap.size := ⟨_, rfl⟩
      rw [← g_r4] at A_r4 D_r4 st18
      refine Goes.step (S' := T18.setTop (mkF m 160 #[.val (.long q1), .second, .val (.long q2), .second, .val (.long q3), .second, .val (.long x), .second, .val (.long y), .second, .val (.long z), .second, .val (.long f), .second, .val (.long l'), .second, .val (.long m'), .second, .val (.long ((l' - f) + (1 : Int64))), .second, .val (.int (1 : Int32)), .unset, .unset, .unset, .unset] [(.ref r4)])) (fun t k => st18 t k) ?_
      have Zn18 : n0 ≤ h18.size := Nat.le_trans (Zc16) E18.1
      refine Goes.step (S' := T18.setTop (mkF m 161 #[.val (.long q1), .second, .val (.long q2), .second, .val (.long q3), .second, .val (.long x), .second, .val (.long y), .second, .val (.long z), .second, .val (.long f), .second, .val (.long l'), .second, .val (.long m'), .second, .val (.long ((l' - f) + (1 : Int64))), .second, .val (.int (1 : Int32)), .unset, .unset, .unset, .unset] [(.ref r4), (.ref r4)])) (fun t k => XS.dup X18.here hx rfl (hb hby at_160) rfl rfl k) ?_
      refine Goes.step (S' := T18.setTop (mkF m 163 #[.val (.long q1), .second, .val (.long q2), .second, .val (.long q3), .second, .val (.long x), .second, .val (.long y), .second, .val (.long z), .second, .val (.long f), .second, .val (.long l'), .second, .val (.long m'), .second, .val (.long ((l' - f) + (1 : Int64))), .second, .val (.int (1 : Int32)), .unset, .unset, .unset, .unset] [(.long f), (.ref r4), (.ref r4)])) (fun t k => XS.lload X18.here hx rfl (hb hby at_161) rfl k) ?_
      refine Goes.step (S' := T18.setTop (mkF m 165 #[.val (.long q1), .second, .val (.long q2), .second, .val (.long q3), .second, .val (.long x), .second, .val (.long y), .second, .val (.long z), .second, .val (.long f), .second, .val (.long l'), .second, .val (.long m'), .second, .val (.long ((l' - f) + (1 : Int64))), .second, .val (.int (1 : Int32)), .unset, .unset, .unset, .unset] [(.long m'), (.long f), (.ref r4), (.ref r4)])) (fun t k => XS.lload X18.here hx rfl (hb hby at_163) rfl k) ?_
      obtain ⟨_, _, ⟨T19, L19, k19, n19⟩, -, X19, ⟨Lc19, hQ19, l19, y19, z19⟩, st19⟩ := X18.specialBack hx (y := (⟨"com/example/enact/enact/ByteRange", "<init>", "(JJ)V"⟩ : MethodName)) rfl hown (mvT hZ (hw _ (List.mem_of_getElem? (i := 16) rfl))) (mvT hZ (hw _ (List.mem_of_getElem? (i := 17) rfl))) (mvT hZ (hw _ (List.mem_of_getElem? (i := 18) rfl))) (by decide) (backOf (W := 1) (rm5 l Z a0 hw [] r4 f m' _ _ h18 n0 Zn18 A_r4 (D_r4 (Or.inr (hw _ (List.mem_of_getElem? (i := 28) rfl))) (ty := .long) (by decide)) (D_r4 (Or.inr (hw _ (List.mem_of_getElem? (i := 30) rfl))) (ty := .long) (by decide)) (Nat.le_trans (Zc16) (Nat.le_of_eq g_r4.symm))) hZ (hw _ (List.mem_of_getElem? (i := 18) rfl)) (hw _ (List.mem_of_getElem? (i := 15) rfl)) (by decide) (by decide)) (g := (mkF m 165 #[.val (.long q1), .second, .val (.long q2), .second, .val (.long q3), .second, .val (.long x), .second, .val (.long y), .second, .val (.long z), .second, .val (.long f), .second, .val (.long l'), .second, .val (.long m'), .second, .val (.long ((l' - f) + (1 : Int64))), .second, .val (.int (1 : Int32)), .unset, .unset, .unset, .unset] [(.long m'), (.long f), (.ref r4), (.ref r4)])) rfl (by rw [hml]; rfl) (Steps.refl _) (a := r4) (argsL := [(.long f), (.long m')]) (rest := [(.ref r4)]) (lenOf pd_5 rfl) rfl (by show 2 * 0 + _ ≤ _; exact Nat.le_of_eq rfl) (hb hby at_165) (fun _ _ => ⟨rfl, e18, (by decide : 4 + 0 ≤ _), (by decide : 8 + 0 ≤ _)⟩)
      dsimp only [Pt.U, Pt.locs, Pt.cells, Pt.slots] at X19 l19 y19 z19 st19 hQ19
      subst l19 y19 z19
      obtain ⟨rfl, N19q, Kc19, Ec19, Fa19, Fb19⟩ := hQ19
      have N19 := Fr.app N17 N19q
      refine Goes.step (S' := T19.setTop (mkF m 168 #[.val (.long q1), .second, .val (.long q2), .second, .val (.long q3), .second, .val (.long x), .second, .val (.long y), .second, .val (.long z), .second, .val (.long f), .second, .val (.long l'), .second, .val (.long m'), .second, .val (.long ((l' - f) + (1 : Int64))), .second, .val (.int (1 : Int32)), .unset, .unset, .unset, .unset] [(.ref r4)])) (fun t k => st19.trans k) ?_
      have Zc19 : n0 ≤ T19.heap.size := Nat.le_trans Zn18 Kc19.1
      obtain ⟨cq20, kq20, q20a, q20b, q20c⟩ := isOf hZ rfl Ec19
      obtain ⟨_, _, ⟨T20, L20, k20, n20⟩, -, X20, ⟨Lc20, hQ20, l20, y20, z20⟩, st20⟩ := X19.virtualBack hx (y := (⟨"com/example/enact/enact/ByteRange", "length", "()J"⟩ : MethodName)) (z := (⟨"com/example/enact/enact/ByteRange", "length", "()J"⟩ : MethodName)) hown (mvT hZ (hw _ (List.mem_of_getElem? (i := 31) rfl))) (mvT hZ (hw _ (List.mem_of_getElem? (i := 32) rfl))) (notFace_of_selects (args := #[]) (mvT hZ (hw _ (List.mem_of_getElem? (i := 34) rfl)))) (mvT hZ (hw _ (List.mem_of_getElem? (i := 34) rfl))) (mvT hZ (hw _ (List.mem_of_getElem? (i := 33) rfl))) (by decide) (backOf (W := 0) (rm6 l Z a0 hw [] r4 f m' T19.heap n0 Zc19 Fa19 Fb19) hZ (hw _ (List.mem_of_getElem? (i := 35) rfl)) (hw _ (List.mem_of_getElem? (i := 15) rfl)) (by decide) (by decide)) q20a q20c (g := (mkF m 168 #[.val (.long q1), .second, .val (.long q2), .second, .val (.long q3), .second, .val (.long x), .second, .val (.long y), .second, .val (.long z), .second, .val (.long f), .second, .val (.long l'), .second, .val (.long m'), .second, .val (.long ((l' - f) + (1 : Int64))), .second, .val (.int (1 : Int32)), .unset, .unset, .unset, .unset] [(.ref r4)])) rfl (by rw [hml]; rfl) (Steps.refl _) (argsL := []) (rest := []) (lenOf pd_6 rfl) rfl (by show 2 * 0 + _ ≤ _; exact Nat.le_of_eq rfl) (hb hby at_168) (fun _ _ => ⟨rfl, rfl, (by decide : 4 + 0 ≤ _), (by decide : 8 + 0 ≤ _)⟩)
      dsimp only [Pt.U, Pt.locs, Pt.cells, Pt.slots] at X20 l20 y20 z20 st20 hQ20
      subst l20 y20 z20
      obtain ⟨rfl, N20q, e20⟩ := hQ20
      have N20 := Fr.app N19 N20q
      refine Goes.step (S' := T20.setTop (mkF m 171 #[.val (.long q1), .second, .val (.long q2), .second, .val (.long q3), .second, .val (.long x), .second, .val (.long y), .second, .val (.long z), .second, .val (.long f), .second, .val (.long l'), .second, .val (.long m'), .second, .val (.long ((l' - f) + (1 : Int64))), .second, .val (.int (1 : Int32)), .unset, .unset, .unset, .unset] [(.long ((m' - f) + (1 : Int64)))])) (fun t k => st20.trans k) ?_
      refine Goes.step (S' := T20.setTop (mkF m 173 #[.val (.long q1), .second, .val (.long q2), .second, .val (.long q3), .second, .val (.long x), .second, .val (.long y), .second, .val (.long z), .second, .val (.long f), .second, .val (.long l'), .second, .val (.long m'), .second, .val (.long ((l' - f) + (1 : Int64))), .second, .val (.int (1 : Int32)), .val (.long ((m' - f) + (1 : Int64))), .second, .unset, .unset] [])) (fun t k => XS.lstore X20.here hx rfl (hb hby at_171) rfl (l' := #[.val (.long q1), .second, .val (.long q2), .second, .val (.long q3), .second, .val (.long x), .second, .val (.long y), .second, .val (.long z), .second, .val (.long f), .second, .val (.long l'), .second, .val (.long m'), .second, .val (.long ((l' - f) + (1 : Int64))), .second, .val (.int (1 : Int32)), .val (.long ((m' - f) + (1 : Int64))), .second, .unset, .unset]) rfl k) ?_
      obtain ⟨T21, h21, X21, e21, E21, A_r5, D_r5, -, st21⟩ := newO X20 hx hZ hown (hw _ (List.mem_of_getElem? (i := 13) rfl)) (hw _ (List.mem_of_getElem? (i := 14) rfl)) (hw _ (List.mem_of_getElem? (i := 15) rfl)) e20 (g := (mkF m 173 #[.val (.long q1), .second, .val (.long q2), .second, .val (.long q3), .second, .val (.long x), .second, .val (.long y), .second, .val (.long z), .second, .val (.long f), .second, .val (.long l'), .second, .val (.long m'), .second, .val (.long ((l' - f) + (1 : Int64))), .second, .val (.int (1 : Int32)), .val (.long ((m' - f) + (1 : Int64))), .second, .unset, .unset] [])) rfl (hb hby at_173) (by decide) (by decide)
      obtain ⟨r5, g_r5⟩ : ∃ z, z = T19.heap.size := ⟨_, rfl⟩
      rw [← g_r5] at A_r5 D_r5 st21
      refine Goes.step (S' := T21.setTop (mkF m 176 #[.val (.long q1), .second, .val (.long q2), .second, .val (.long q3), .second, .val (.long x), .second, .val (.long y), .second, .val (.long z), .second, .val (.long f), .second, .val (.long l'), .second, .val (.long m'), .second, .val (.long ((l' - f) + (1 : Int64))), .second, .val (.int (1 : Int32)), .val (.long ((m' - f) + (1 : Int64))), .second, .unset, .unset] [(.ref r5)])) (fun t k => st21 t k) ?_
      have Zn21 : n0 ≤ h21.size := Nat.le_trans (Zc19) E21.1
      refine Goes.step (S' := T21.setTop (mkF m 177 #[.val (.long q1), .second, .val (.long q2), .second, .val (.long q3), .second, .val (.long x), .second, .val (.long y), .second, .val (.long z), .second, .val (.long f), .second, .val (.long l'), .second, .val (.long m'), .second, .val (.long ((l' - f) + (1 : Int64))), .second, .val (.int (1 : Int32)), .val (.long ((m' - f) + (1 : Int64))), .second, .unset, .unset] [(.ref r5), (.ref r5)])) (fun t k => XS.dup X21.here hx rfl (hb hby at_176) rfl rfl k) ?_
      refine Goes.step (S' := T21.setTop (mkF m 179 #[.val (.long q1), .second, .val (.long q2), .second, .val (.long q3), .second, .val (.long x), .second, .val (.long y), .second, .val (.long z), .second, .val (.long f), .second, .val (.long l'), .second, .val (.long m'), .second, .val (.long ((l' - f) + (1 : Int64))), .second, .val (.int (1 : Int32)), .val (.long ((m' - f) + (1 : Int64))), .second, .unset, .unset] [(.long m'), (.ref r5), (.ref r5)])) (fun t k => XS.lload X21.here hx rfl (hb hby at_177) rfl k) ?_
      refine Goes.step (S' := T21.setTop (mkF m 180 #[.val (.long q1), .second, .val (.long q2), .second, .val (.long q3), .second, .val (.long x), .second, .val (.long y), .second, .val (.long z), .second, .val (.long f), .second, .val (.long l'), .second, .val (.long m'), .second, .val (.long ((l' - f) + (1 : Int64))), .second, .val (.int (1 : Int32)), .val (.long ((m' - f) + (1 : Int64))), .second, .unset, .unset] [(.long (1 : Int64)), (.long m'), (.ref r5), (.ref r5)])) (fun t k => XS.lconst X21.here hx rfl (hb hby at_179) k) ?_
      refine Goes.step (S' := T21.setTop (mkF m 181 #[.val (.long q1), .second, .val (.long q2), .second, .val (.long q3), .second, .val (.long x), .second, .val (.long y), .second, .val (.long z), .second, .val (.long f), .second, .val (.long l'), .second, .val (.long m'), .second, .val (.long ((l' - f) + (1 : Int64))), .second, .val (.int (1 : Int32)), .val (.long ((m' - f) + (1 : Int64))), .second, .unset, .unset] [(.long (m' + (1 : Int64))), (.ref r5), (.ref r5)])) (fun t k => XS.ladd X21.here hx rfl (hb hby at_180) rfl k) ?_
      refine Goes.step (S' := T21.setTop (mkF m 183 #[.val (.long q1), .second, .val (.long q2), .second, .val (.long q3), .second, .val (.long x), .second, .val (.long y), .second, .val (.long z), .second, .val (.long f), .second, .val (.long l'), .second, .val (.long m'), .second, .val (.long ((l' - f) + (1 : Int64))), .second, .val (.int (1 : Int32)), .val (.long ((m' - f) + (1 : Int64))), .second, .unset, .unset] [(.long l'), (.long (m' + (1 : Int64))), (.ref r5), (.ref r5)])) (fun t k => XS.lload X21.here hx rfl (hb hby at_181) rfl k) ?_
      obtain ⟨_, _, ⟨T22, L22, k22, n22⟩, -, X22, ⟨Lc22, hQ22, l22, y22, z22⟩, st22⟩ := X21.specialBack hx (y := (⟨"com/example/enact/enact/ByteRange", "<init>", "(JJ)V"⟩ : MethodName)) rfl hown (mvT hZ (hw _ (List.mem_of_getElem? (i := 16) rfl))) (mvT hZ (hw _ (List.mem_of_getElem? (i := 17) rfl))) (mvT hZ (hw _ (List.mem_of_getElem? (i := 18) rfl))) (by decide) (backOf (W := 1) (rm5 l Z a0 hw [] r5 (m' + (1 : Int64)) l' _ _ h21 n0 Zn21 A_r5 (D_r5 (Or.inr (hw _ (List.mem_of_getElem? (i := 28) rfl))) (ty := .long) (by decide)) (D_r5 (Or.inr (hw _ (List.mem_of_getElem? (i := 30) rfl))) (ty := .long) (by decide)) (Nat.le_trans (Zc19) (Nat.le_of_eq g_r5.symm))) hZ (hw _ (List.mem_of_getElem? (i := 18) rfl)) (hw _ (List.mem_of_getElem? (i := 15) rfl)) (by decide) (by decide)) (g := (mkF m 183 #[.val (.long q1), .second, .val (.long q2), .second, .val (.long q3), .second, .val (.long x), .second, .val (.long y), .second, .val (.long z), .second, .val (.long f), .second, .val (.long l'), .second, .val (.long m'), .second, .val (.long ((l' - f) + (1 : Int64))), .second, .val (.int (1 : Int32)), .val (.long ((m' - f) + (1 : Int64))), .second, .unset, .unset] [(.long l'), (.long (m' + (1 : Int64))), (.ref r5), (.ref r5)])) rfl (by rw [hml]; rfl) (Steps.refl _) (a := r5) (argsL := [(.long (m' + (1 : Int64))), (.long l')]) (rest := [(.ref r5)]) (lenOf pd_5 rfl) rfl (by show 2 * 0 + _ ≤ _; exact Nat.le_of_eq rfl) (hb hby at_183) (fun _ _ => ⟨rfl, e21, (by decide : 5 + 0 ≤ _), (by decide : 10 + 0 ≤ _)⟩)
      dsimp only [Pt.U, Pt.locs, Pt.cells, Pt.slots] at X22 l22 y22 z22 st22 hQ22
      subst l22 y22 z22
      obtain ⟨rfl, N22q, Kc22, Ec22, Fa22, Fb22⟩ := hQ22
      have N22 := Fr.app N20 N22q
      refine Goes.step (S' := T22.setTop (mkF m 186 #[.val (.long q1), .second, .val (.long q2), .second, .val (.long q3), .second, .val (.long x), .second, .val (.long y), .second, .val (.long z), .second, .val (.long f), .second, .val (.long l'), .second, .val (.long m'), .second, .val (.long ((l' - f) + (1 : Int64))), .second, .val (.int (1 : Int32)), .val (.long ((m' - f) + (1 : Int64))), .second, .unset, .unset] [(.ref r5)])) (fun t k => st22.trans k) ?_
      have Zc22 : n0 ≤ T22.heap.size := Nat.le_trans Zn21 Kc22.1
      obtain ⟨cq23, kq23, q23a, q23b, q23c⟩ := isOf hZ rfl Ec22
      obtain ⟨_, _, ⟨T23, L23, k23, n23⟩, -, X23, ⟨Lc23, hQ23, l23, y23, z23⟩, st23⟩ := X22.virtualBack hx (y := (⟨"com/example/enact/enact/ByteRange", "length", "()J"⟩ : MethodName)) (z := (⟨"com/example/enact/enact/ByteRange", "length", "()J"⟩ : MethodName)) hown (mvT hZ (hw _ (List.mem_of_getElem? (i := 31) rfl))) (mvT hZ (hw _ (List.mem_of_getElem? (i := 32) rfl))) (notFace_of_selects (args := #[]) (mvT hZ (hw _ (List.mem_of_getElem? (i := 34) rfl)))) (mvT hZ (hw _ (List.mem_of_getElem? (i := 34) rfl))) (mvT hZ (hw _ (List.mem_of_getElem? (i := 33) rfl))) (by decide) (backOf (W := 0) (rm6 l Z a0 hw [] r5 (m' + (1 : Int64)) l' T22.heap n0 Zc22 Fa22 Fb22) hZ (hw _ (List.mem_of_getElem? (i := 35) rfl)) (hw _ (List.mem_of_getElem? (i := 15) rfl)) (by decide) (by decide)) q23a q23c (g := (mkF m 186 #[.val (.long q1), .second, .val (.long q2), .second, .val (.long q3), .second, .val (.long x), .second, .val (.long y), .second, .val (.long z), .second, .val (.long f), .second, .val (.long l'), .second, .val (.long m'), .second, .val (.long ((l' - f) + (1 : Int64))), .second, .val (.int (1 : Int32)), .val (.long ((m' - f) + (1 : Int64))), .second, .unset, .unset] [(.ref r5)])) rfl (by rw [hml]; rfl) (Steps.refl _) (argsL := []) (rest := []) (lenOf pd_6 rfl) rfl (by show 2 * 0 + _ ≤ _; exact Nat.le_of_eq rfl) (hb hby at_186) (fun _ _ => ⟨rfl, rfl, (by decide : 5 + 0 ≤ _), (by decide : 10 + 0 ≤ _)⟩)
      dsimp only [Pt.U, Pt.locs, Pt.cells, Pt.slots] at X23 l23 y23 z23 st23 hQ23
      subst l23 y23 z23
      obtain ⟨rfl, N23q, e23⟩ := hQ23
      have N23 := Fr.app N22 N23q
      refine Goes.step (S' := T23.setTop (mkF m 189 #[.val (.long q1), .second, .val (.long q2), .second, .val (.long q3), .second, .val (.long x), .second, .val (.long y), .second, .val (.long z), .second, .val (.long f), .second, .val (.long l'), .second, .val (.long m'), .second, .val (.long ((l' - f) + (1 : Int64))), .second, .val (.int (1 : Int32)), .val (.long ((m' - f) + (1 : Int64))), .second, .unset, .unset] [(.long ((l' - (m' + (1 : Int64))) + (1 : Int64)))])) (fun t k => st23.trans k) ?_
      refine Goes.step (S' := T23.setTop (mkF m 191 #[.val (.long q1), .second, .val (.long q2), .second, .val (.long q3), .second, .val (.long x), .second, .val (.long y), .second, .val (.long z), .second, .val (.long f), .second, .val (.long l'), .second, .val (.long m'), .second, .val (.long ((l' - f) + (1 : Int64))), .second, .val (.int (1 : Int32)), .val (.long ((m' - f) + (1 : Int64))), .second, .val (.long ((l' - (m' + (1 : Int64))) + (1 : Int64))), .second] [])) (fun t k => XS.lstore X23.here hx rfl (hb hby at_189) rfl (l' := #[.val (.long q1), .second, .val (.long q2), .second, .val (.long q3), .second, .val (.long x), .second, .val (.long y), .second, .val (.long z), .second, .val (.long f), .second, .val (.long l'), .second, .val (.long m'), .second, .val (.long ((l' - f) + (1 : Int64))), .second, .val (.int (1 : Int32)), .val (.long ((m' - f) + (1 : Int64))), .second, .val (.long ((l' - (m' + (1 : Int64))) + (1 : Int64))), .second]) rfl k) ?_
      refine Goes.step (S' := T23.setTop (mkF m 193 #[.val (.long q1), .second, .val (.long q2), .second, .val (.long q3), .second, .val (.long x), .second, .val (.long y), .second, .val (.long z), .second, .val (.long f), .second, .val (.long l'), .second, .val (.long m'), .second, .val (.long ((l' - f) + (1 : Int64))), .second, .val (.int (1 : Int32)), .val (.long ((m' - f) + (1 : Int64))), .second, .val (.long ((l' - (m' + (1 : Int64))) + (1 : Int64))), .second] [(.int (1 : Int32))])) (fun t k => XS.iload X23.here hx rfl (hb hby at_191) rfl k) ?_
      refine Goes.step (S' := T23.setTop (mkF m 196 #[.val (.long q1), .second, .val (.long q2), .second, .val (.long q3), .second, .val (.long x), .second, .val (.long y), .second, .val (.long z), .second, .val (.long f), .second, .val (.long l'), .second, .val (.long m'), .second, .val (.long ((l' - f) + (1 : Int64))), .second, .val (.int (1 : Int32)), .val (.long ((m' - f) + (1 : Int64))), .second, .val (.long ((l' - (m' + (1 : Int64))) + (1 : Int64))), .second] [])) (fun t k => XS.ifNo X23.here hx rfl (hb hby at_193) rfl ((if0 _ _).trans (feq (by decide : ¬ (1 : Int32) = (0 : Int32))).1) k) ?_
      refine Goes.step (S' := T23.setTop (mkF m 198 #[.val (.long q1), .second, .val (.long q2), .second, .val (.long q3), .second, .val (.long x), .second, .val (.long y), .second, .val (.long z), .second, .val (.long f), .second, .val (.long l'), .second, .val (.long m'), .second, .val (.long ((l' - f) + (1 : Int64))), .second, .val (.int (1 : Int32)), .val (.long ((m' - f) + (1 : Int64))), .second, .val (.long ((l' - (m' + (1 : Int64))) + (1 : Int64))), .second] [(.long ((l' - f) + (1 : Int64)))])) (fun t k => XS.lload X23.here hx rfl (hb hby at_196) rfl k) ?_
      refine Goes.step (S' := T23.setTop (mkF m 200 #[.val (.long q1), .second, .val (.long q2), .second, .val (.long q3), .second, .val (.long x), .second, .val (.long y), .second, .val (.long z), .second, .val (.long f), .second, .val (.long l'), .second, .val (.long m'), .second, .val (.long ((l' - f) + (1 : Int64))), .second, .val (.int (1 : Int32)), .val (.long ((m' - f) + (1 : Int64))), .second, .val (.long ((l' - (m' + (1 : Int64))) + (1 : Int64))), .second] [(.long ((m' - f) + (1 : Int64))), (.long ((l' - f) + (1 : Int64)))])) (fun t k => XS.lload X23.here hx rfl (hb hby at_198) rfl k) ?_
      refine Goes.step (S' := T23.setTop (mkF m 202 #[.val (.long q1), .second, .val (.long q2), .second, .val (.long q3), .second, .val (.long x), .second, .val (.long y), .second, .val (.long z), .second, .val (.long f), .second, .val (.long l'), .second, .val (.long m'), .second, .val (.long ((l' - f) + (1 : Int64))), .second, .val (.int (1 : Int32)), .val (.long ((m' - f) + (1 : Int64))), .second, .val (.long ((l' - (m' + (1 : Int64))) + (1 : Int64))), .second] [(.long ((l' - (m' + (1 : Int64))) + (1 : Int64))), (.long ((m' - f) + (1 : Int64))), (.long ((l' - f) + (1 : Int64)))])) (fun t k => XS.lload X23.here hx rfl (hb hby at_200) rfl k) ?_
      refine Goes.step (S' := T23.setTop (mkF m 203 #[.val (.long q1), .second, .val (.long q2), .second, .val (.long q3), .second, .val (.long x), .second, .val (.long y), .second, .val (.long z), .second, .val (.long f), .second, .val (.long l'), .second, .val (.long m'), .second, .val (.long ((l' - f) + (1 : Int64))), .second, .val (.int (1 : Int32)), .val (.long ((m' - f) + (1 : Int64))), .second, .val (.long ((l' - (m' + (1 : Int64))) + (1 : Int64))), .second] [(.long (((m' - f) + (1 : Int64)) + ((l' - (m' + (1 : Int64))) + (1 : Int64)))), (.long ((l' - f) + (1 : Int64)))])) (fun t k => XS.ladd X23.here hx rfl (hb hby at_202) rfl k) ?_
      refine Goes.step (S' := T23.setTop (mkF m 204 #[.val (.long q1), .second, .val (.long q2), .second, .val (.long q3), .second, .val (.long x), .second, .val (.long y), .second, .val (.long z), .second, .val (.long f), .second, .val (.long l'), .second, .val (.long m'), .second, .val (.long ((l' - f) + (1 : Int64))), .second, .val (.int (1 : Int32)), .val (.long ((m' - f) + (1 : Int64))), .second, .val (.long ((l' - (m' + (1 : Int64))) + (1 : Int64))), .second] [(.int (lcmpW ((l' - f) + (1 : Int64)) (((m' - f) + (1 : Int64)) + ((l' - (m' + (1 : Int64))) + (1 : Int64)))))])) (fun t k => XS.lcmp X23.here hx rfl (hb hby at_203) rfl k) ?_
      refine Goes.step (S' := T23.setTop (mkF m 207 #[.val (.long q1), .second, .val (.long q2), .second, .val (.long q3), .second, .val (.long x), .second, .val (.long y), .second, .val (.long z), .second, .val (.long f), .second, .val (.long l'), .second, .val (.long m'), .second, .val (.long ((l' - f) + (1 : Int64))), .second, .val (.int (1 : Int32)), .val (.long ((m' - f) + (1 : Int64))), .second, .val (.long ((l' - (m' + (1 : Int64))) + (1 : Int64))), .second] [])) (fun t k => XS.ifNo X23.here hx rfl (hb hby at_204) rfl ((if0 _ _).trans (teq (own_lc0 (own_add hf hfm c1 hl))).2) k) ?_
      refine Goes.step (S' := T23.setTop (mkF m 208 #[.val (.long q1), .second, .val (.long q2), .second, .val (.long q3), .second, .val (.long x), .second, .val (.long y), .second, .val (.long z), .second, .val (.long f), .second, .val (.long l'), .second, .val (.long m'), .second, .val (.long ((l' - f) + (1 : Int64))), .second, .val (.int (1 : Int32)), .val (.long ((m' - f) + (1 : Int64))), .second, .val (.long ((l' - (m' + (1 : Int64))) + (1 : Int64))), .second] [(.int (1 : Int32))])) (fun t k => XS.iconst X23.here hx rfl (hb hby at_207) k) ?_
      refine Goes.step (S' := T23.setTop (mkF m 212 #[.val (.long q1), .second, .val (.long q2), .second, .val (.long q3), .second, .val (.long x), .second, .val (.long y), .second, .val (.long z), .second, .val (.long f), .second, .val (.long l'), .second, .val (.long m'), .second, .val (.long ((l' - f) + (1 : Int64))), .second, .val (.int (1 : Int32)), .val (.long ((m' - f) + (1 : Int64))), .second, .val (.long ((l' - (m' + (1 : Int64))) + (1 : Int64))), .second] [(.int (1 : Int32))])) (fun t k => XS.goto X23.here hx rfl (pc0 := 208) (pc' := 212) rfl (hb hby at_208) (by decide) (by decide) k) ?_
      refine Goes.step (S' := T23.setTop (mkF m 214 #[.val (.long q1), .second, .val (.long q2), .second, .val (.long q3), .second, .val (.long x), .second, .val (.long y), .second, .val (.long z), .second, .val (.long f), .second, .val (.long l'), .second, .val (.long m'), .second, .val (.long ((l' - f) + (1 : Int64))), .second, .val (.int (1 : Int32)), .val (.long ((m' - f) + (1 : Int64))), .second, .val (.long ((l' - (m' + (1 : Int64))) + (1 : Int64))), .second] [])) (fun t k => XS.istore X23.here hx rfl (hb hby at_212) rfl (l' := #[.val (.long q1), .second, .val (.long q2), .second, .val (.long q3), .second, .val (.long x), .second, .val (.long y), .second, .val (.long z), .second, .val (.long f), .second, .val (.long l'), .second, .val (.long m'), .second, .val (.long ((l' - f) + (1 : Int64))), .second, .val (.int (1 : Int32)), .val (.long ((m' - f) + (1 : Int64))), .second, .val (.long ((l' - (m' + (1 : Int64))) + (1 : Int64))), .second]) rfl k) ?_
      refine Goes.step (S' := T23.setTop (mkF m 216 #[.val (.long q1), .second, .val (.long q2), .second, .val (.long q3), .second, .val (.long x), .second, .val (.long y), .second, .val (.long z), .second, .val (.long f), .second, .val (.long l'), .second, .val (.long m'), .second, .val (.long ((l' - f) + (1 : Int64))), .second, .val (.int (1 : Int32)), .val (.long ((m' - f) + (1 : Int64))), .second, .val (.long ((l' - (m' + (1 : Int64))) + (1 : Int64))), .second] [(.int (1 : Int32))])) (fun t k => XS.iload X23.here hx rfl (hb hby at_214) rfl k) ?_
      obtain ⟨fs, hr, hrun, hended, hW, hsame⟩ := X23.leave (v := some (.int (1 : Int32))) (fun h => by rw [Bd.returns] at h; cases h)
      exact ⟨_, _, retN X23 hx (t := .boolean) Bd.returns (by simp) (hb hby at_216) hr, hrun, hended, _, _, rfl, ⟨rfl, N23⟩, ⟨_, rfl⟩, hW, hsame.mono (by decide) (by decide)⟩
    · refine Goes.step (S' := T17.setTop (mkF m 214 #[.val (.long q1), .second, .val (.long q2), .second, .val (.long q3), .second, .val (.long x), .second, .val (.long y), .second, .val (.long z), .second, .val (.long f), .second, .val (.long l'), .second, .val (.long m'), .second, .val (.long ((l' - f) + (1 : Int64))), .second, .val (.int (1 : Int32)), .unset, .unset, .unset, .unset] [])) (fun t k => XS.ifYes X17.here hx rfl (pc0 := 154) (pc' := 214) rfl (hb hby at_154) rfl ((if0 _ _).trans (flt (own_lc_nlt c1)).2.1) (by decide) (by decide) k) ?_
      refine Goes.step (S' := T17.setTop (mkF m 216 #[.val (.long q1), .second, .val (.long q2), .second, .val (.long q3), .second, .val (.long x), .second, .val (.long y), .second, .val (.long z), .second, .val (.long f), .second, .val (.long l'), .second, .val (.long m'), .second, .val (.long ((l' - f) + (1 : Int64))), .second, .val (.int (1 : Int32)), .unset, .unset, .unset, .unset] [(.int (1 : Int32))])) (fun t k => XS.iload X17.here hx rfl (hb hby at_214) rfl k) ?_
      obtain ⟨fs, hr, hrun, hended, hW, hsame⟩ := X17.leave (v := some (.int (1 : Int32))) (fun h => by rw [Bd.returns] at h; cases h)
      exact ⟨_, _, retN X17 hx (t := .boolean) Bd.returns (by simp) (hb hby at_216) hr, hrun, hended, _, _, rfl, ⟨rfl, N17⟩, ⟨_, rfl⟩, hW, hsame.mono (by decide) (by decide)⟩
  refine Goes.step (S' := s₁.setTop (mkF m 1 #[.val (.long q1), .second, .val (.long q2), .second, .val (.long q3), .second, .unset, .unset, .unset, .unset, .unset, .unset, .unset, .unset, .unset, .unset, .unset, .unset, .unset, .unset, .unset, .unset, .unset, .unset, .unset] [(.long q1)])) (fun t k => XS.lloadN X0.here hx rfl (hb hby at_0) rfl k) ?_
  obtain ⟨_, _, ⟨T24, L24, k24, n24⟩, -, X24, ⟨Lc24, hQ24, l24, y24, z24⟩, st24⟩ := Jvm.LawKit.callS X0 hx (y := (⟨"com/example/enact/enact/ByteRangeLengthPinLaw", "pos", "(J)J"⟩ : MethodName)) hown (mvT hZ (hw _ (List.mem_of_getElem? (i := 0) rfl))) (mvT hZ (hw _ (List.mem_of_getElem? (i := 1) rfl))) (mvT hZ (hw _ (List.mem_of_getElem? (i := 2) rfl))) (mvT hZ (hw _ (List.mem_of_getElem? (i := 3) rfl))) (by decide) (backOf (W := 0) (rm3 l Z a0 hw [] q1 h0 n0 Z0) hZ (hw _ (List.mem_of_getElem? (i := 3) rfl)) (hw _ (List.mem_of_getElem? (i := 2) rfl)) (by decide) (by decide)) (g := (mkF m 1 #[.val (.long q1), .second, .val (.long q2), .second, .val (.long q3), .second, .unset, .unset, .unset, .unset, .unset, .unset, .unset, .unset, .unset, .unset, .unset, .unset, .unset, .unset, .unset, .unset, .unset, .unset, .unset] [(.long q1)])) rfl (by rw [hml]; rfl) (argsL := [(.long q1)]) (rest := []) (lenOf pd_3 rfl) rfl (by show 2 * 0 + _ ≤ _; exact Nat.le_of_eq rfl) (hb hby at_1) (fun _ _ => ⟨rfl, e0, (by decide : 0 + 0 ≤ _), (by decide : 0 + 0 ≤ _)⟩)
  dsimp only [Pt.U, Pt.locs, Pt.cells, Pt.slots] at X24 l24 y24 z24 st24 hQ24
  subst l24 y24 z24
  obtain ⟨rfl, N24q, e24⟩ := hQ24
  have N24 := Fr.app N0 N24q
  refine Goes.step (S' := T24.setTop (mkF m 4 #[.val (.long q1), .second, .val (.long q2), .second, .val (.long q3), .second, .unset, .unset, .unset, .unset, .unset, .unset, .unset, .unset, .unset, .unset, .unset, .unset, .unset, .unset, .unset, .unset, .unset, .unset, .unset] [(.long (own_pos q1))])) (fun t k => st24 t k) ?_
  refine Goes.step (S' := T24.setTop (mkF m 6 #[.val (.long q1), .second, .val (.long q2), .second, .val (.long q3), .second, .val (.long (own_pos q1)), .second, .unset, .unset, .unset, .unset, .unset, .unset, .unset, .unset, .unset, .unset, .unset, .unset, .unset, .unset, .unset, .unset, .unset] [])) (fun t k => XS.lstore X24.here hx rfl (hb hby at_4) rfl (l' := #[.val (.long q1), .second, .val (.long q2), .second, .val (.long q3), .second, .val (.long (own_pos q1)), .second, .unset, .unset, .unset, .unset, .unset, .unset, .unset, .unset, .unset, .unset, .unset, .unset, .unset, .unset, .unset, .unset, .unset]) rfl k) ?_
  refine Goes.step (S' := T24.setTop (mkF m 7 #[.val (.long q1), .second, .val (.long q2), .second, .val (.long q3), .second, .val (.long (own_pos q1)), .second, .unset, .unset, .unset, .unset, .unset, .unset, .unset, .unset, .unset, .unset, .unset, .unset, .unset, .unset, .unset, .unset, .unset] [(.long q2)])) (fun t k => XS.lloadN X24.here hx rfl (hb hby at_6) rfl k) ?_
  obtain ⟨_, _, ⟨T25, L25, k25, n25⟩, -, X25, ⟨Lc25, hQ25, l25, y25, z25⟩, st25⟩ := Jvm.LawKit.callS X24 hx (y := (⟨"com/example/enact/enact/ByteRangeLengthPinLaw", "pos", "(J)J"⟩ : MethodName)) hown (mvT hZ (hw _ (List.mem_of_getElem? (i := 0) rfl))) (mvT hZ (hw _ (List.mem_of_getElem? (i := 1) rfl))) (mvT hZ (hw _ (List.mem_of_getElem? (i := 2) rfl))) (mvT hZ (hw _ (List.mem_of_getElem? (i := 3) rfl))) (by decide) (backOf (W := 0) (rm3 l Z a0 hw [] q2 h0 n0 Z0) hZ (hw _ (List.mem_of_getElem? (i := 3) rfl)) (hw _ (List.mem_of_getElem? (i := 2) rfl)) (by decide) (by decide)) (g := (mkF m 7 #[.val (.long q1), .second, .val (.long q2), .second, .val (.long q3), .second, .val (.long (own_pos q1)), .second, .unset, .unset, .unset, .unset, .unset, .unset, .unset, .unset, .unset, .unset, .unset, .unset, .unset, .unset, .unset, .unset, .unset] [(.long q2)])) rfl (by rw [hml]; rfl) (argsL := [(.long q2)]) (rest := []) (lenOf pd_3 rfl) rfl (by show 2 * 0 + _ ≤ _; exact Nat.le_of_eq rfl) (hb hby at_7) (fun _ _ => ⟨rfl, e24, (by decide : 0 + 0 ≤ _), (by decide : 0 + 0 ≤ _)⟩)
  dsimp only [Pt.U, Pt.locs, Pt.cells, Pt.slots] at X25 l25 y25 z25 st25 hQ25
  subst l25 y25 z25
  obtain ⟨rfl, N25q, e25⟩ := hQ25
  have N25 := Fr.app N24 N25q
  refine Goes.step (S' := T25.setTop (mkF m 10 #[.val (.long q1), .second, .val (.long q2), .second, .val (.long q3), .second, .val (.long (own_pos q1)), .second, .unset, .unset, .unset, .unset, .unset, .unset, .unset, .unset, .unset, .unset, .unset, .unset, .unset, .unset, .unset, .unset, .unset] [(.long (own_pos q2))])) (fun t k => st25 t k) ?_
  refine Goes.step (S' := T25.setTop (mkF m 12 #[.val (.long q1), .second, .val (.long q2), .second, .val (.long q3), .second, .val (.long (own_pos q1)), .second, .val (.long (own_pos q2)), .second, .unset, .unset, .unset, .unset, .unset, .unset, .unset, .unset, .unset, .unset, .unset, .unset, .unset, .unset, .unset] [])) (fun t k => XS.lstore X25.here hx rfl (hb hby at_10) rfl (l' := #[.val (.long q1), .second, .val (.long q2), .second, .val (.long q3), .second, .val (.long (own_pos q1)), .second, .val (.long (own_pos q2)), .second, .unset, .unset, .unset, .unset, .unset, .unset, .unset, .unset, .unset, .unset, .unset, .unset, .unset, .unset, .unset]) rfl k) ?_
  refine Goes.step (S' := T25.setTop (mkF m 14 #[.val (.long q1), .second, .val (.long q2), .second, .val (.long q3), .second, .val (.long (own_pos q1)), .second, .val (.long (own_pos q2)), .second, .unset, .unset, .unset, .unset, .unset, .unset, .unset, .unset, .unset, .unset, .unset, .unset, .unset, .unset, .unset] [(.long q3)])) (fun t k => XS.lload X25.here hx rfl (hb hby at_12) rfl k) ?_
  obtain ⟨_, _, ⟨T26, L26, k26, n26⟩, -, X26, ⟨Lc26, hQ26, l26, y26, z26⟩, st26⟩ := Jvm.LawKit.callS X25 hx (y := (⟨"com/example/enact/enact/ByteRangeLengthPinLaw", "pos", "(J)J"⟩ : MethodName)) hown (mvT hZ (hw _ (List.mem_of_getElem? (i := 0) rfl))) (mvT hZ (hw _ (List.mem_of_getElem? (i := 1) rfl))) (mvT hZ (hw _ (List.mem_of_getElem? (i := 2) rfl))) (mvT hZ (hw _ (List.mem_of_getElem? (i := 3) rfl))) (by decide) (backOf (W := 0) (rm3 l Z a0 hw [] q3 h0 n0 Z0) hZ (hw _ (List.mem_of_getElem? (i := 3) rfl)) (hw _ (List.mem_of_getElem? (i := 2) rfl)) (by decide) (by decide)) (g := (mkF m 14 #[.val (.long q1), .second, .val (.long q2), .second, .val (.long q3), .second, .val (.long (own_pos q1)), .second, .val (.long (own_pos q2)), .second, .unset, .unset, .unset, .unset, .unset, .unset, .unset, .unset, .unset, .unset, .unset, .unset, .unset, .unset, .unset] [(.long q3)])) rfl (by rw [hml]; rfl) (argsL := [(.long q3)]) (rest := []) (lenOf pd_3 rfl) rfl (by show 2 * 0 + _ ≤ _; exact Nat.le_of_eq rfl) (hb hby at_14) (fun _ _ => ⟨rfl, e25, (by decide : 0 + 0 ≤ _), (by decide : 0 + 0 ≤ _)⟩)
  dsimp only [Pt.U, Pt.locs, Pt.cells, Pt.slots] at X26 l26 y26 z26 st26 hQ26
  subst l26 y26 z26
  obtain ⟨rfl, N26q, e26⟩ := hQ26
  have N26 := Fr.app N25 N26q
  refine Goes.step (S' := T26.setTop (mkF m 17 #[.val (.long q1), .second, .val (.long q2), .second, .val (.long q3), .second, .val (.long (own_pos q1)), .second, .val (.long (own_pos q2)), .second, .unset, .unset, .unset, .unset, .unset, .unset, .unset, .unset, .unset, .unset, .unset, .unset, .unset, .unset, .unset] [(.long (own_pos q3))])) (fun t k => st26 t k) ?_
  refine Goes.step (S' := T26.setTop (mkF m 19 #[.val (.long q1), .second, .val (.long q2), .second, .val (.long q3), .second, .val (.long (own_pos q1)), .second, .val (.long (own_pos q2)), .second, .val (.long (own_pos q3)), .second, .unset, .unset, .unset, .unset, .unset, .unset, .unset, .unset, .unset, .unset, .unset, .unset, .unset] [])) (fun t k => XS.lstore X26.here hx rfl (hb hby at_17) rfl (l' := #[.val (.long q1), .second, .val (.long q2), .second, .val (.long q3), .second, .val (.long (own_pos q1)), .second, .val (.long (own_pos q2)), .second, .val (.long (own_pos q3)), .second, .unset, .unset, .unset, .unset, .unset, .unset, .unset, .unset, .unset, .unset, .unset, .unset, .unset]) rfl k) ?_
  refine Goes.step (S' := T26.setTop (mkF m 21 #[.val (.long q1), .second, .val (.long q2), .second, .val (.long q3), .second, .val (.long (own_pos q1)), .second, .val (.long (own_pos q2)), .second, .val (.long (own_pos q3)), .second, .unset, .unset, .unset, .unset, .unset, .unset, .unset, .unset, .unset, .unset, .unset, .unset, .unset] [(.long (own_pos q1))])) (fun t k => XS.lload X26.here hx rfl (hb hby at_19) rfl k) ?_
  refine Goes.step (S' := T26.setTop (mkF m 23 #[.val (.long q1), .second, .val (.long q2), .second, .val (.long q3), .second, .val (.long (own_pos q1)), .second, .val (.long (own_pos q2)), .second, .val (.long (own_pos q3)), .second, .unset, .unset, .unset, .unset, .unset, .unset, .unset, .unset, .unset, .unset, .unset, .unset, .unset] [(.long (own_pos q2)), (.long (own_pos q1))])) (fun t k => XS.lload X26.here hx rfl (hb hby at_21) rfl k) ?_
  obtain ⟨_, _, ⟨T27, L27, k27, n27⟩, -, X27, ⟨Lc27, hQ27, l27, y27, z27⟩, st27⟩ := Jvm.LawKit.callS X26 hx (y := (⟨"java/lang/Math", "min", "(JJ)J"⟩ : MethodName)) hown (mvT hZ (hw _ (List.mem_of_getElem? (i := 6) rfl))) (mvT hZ (hw _ (List.mem_of_getElem? (i := 7) rfl))) (mvT hZ (hw _ (List.mem_of_getElem? (i := 8) rfl))) (mvT hZ (hw _ (List.mem_of_getElem? (i := 9) rfl))) (by decide) (backOf (W := 0) (rm1 l Z a0 hw [] (own_pos q1) (own_pos q2) h0 n0 Z0) hZ (hw _ (List.mem_of_getElem? (i := 9) rfl)) (hw _ (List.mem_of_getElem? (i := 8) rfl)) (by decide) (by decide)) (g := (mkF m 23 #[.val (.long q1), .second, .val (.long q2), .second, .val (.long q3), .second, .val (.long (own_pos q1)), .second, .val (.long (own_pos q2)), .second, .val (.long (own_pos q3)), .second, .unset, .unset, .unset, .unset, .unset, .unset, .unset, .unset, .unset, .unset, .unset, .unset, .unset] [(.long (own_pos q2)), (.long (own_pos q1))])) rfl (by rw [hml]; rfl) (argsL := [(.long (own_pos q1)), (.long (own_pos q2))]) (rest := []) (lenOf pd_1 rfl) rfl (by show 2 * 0 + _ ≤ _; exact Nat.le_of_eq rfl) (hb hby at_23) (fun _ _ => ⟨rfl, e26, (by decide : 0 + 0 ≤ _), (by decide : 0 + 0 ≤ _)⟩)
  dsimp only [Pt.U, Pt.locs, Pt.cells, Pt.slots] at X27 l27 y27 z27 st27 hQ27
  subst l27 y27 z27
  obtain ⟨rfl, N27q, e27⟩ := hQ27
  have N27 := Fr.app N26 N27q
  refine Goes.step (S' := T27.setTop (mkF m 26 #[.val (.long q1), .second, .val (.long q2), .second, .val (.long q3), .second, .val (.long (own_pos q1)), .second, .val (.long (own_pos q2)), .second, .val (.long (own_pos q3)), .second, .unset, .unset, .unset, .unset, .unset, .unset, .unset, .unset, .unset, .unset, .unset, .unset, .unset] [(.long (own_min (own_pos q1) (own_pos q2)))])) (fun t k => st27 t k) ?_
  refine Goes.step (S' := T27.setTop (mkF m 28 #[.val (.long q1), .second, .val (.long q2), .second, .val (.long q3), .second, .val (.long (own_pos q1)), .second, .val (.long (own_pos q2)), .second, .val (.long (own_pos q3)), .second, .unset, .unset, .unset, .unset, .unset, .unset, .unset, .unset, .unset, .unset, .unset, .unset, .unset] [(.long (own_pos q3)), (.long (own_min (own_pos q1) (own_pos q2)))])) (fun t k => XS.lload X27.here hx rfl (hb hby at_26) rfl k) ?_
  obtain ⟨_, _, ⟨T28, L28, k28, n28⟩, -, X28, ⟨Lc28, hQ28, l28, y28, z28⟩, st28⟩ := Jvm.LawKit.callS X27 hx (y := (⟨"java/lang/Math", "min", "(JJ)J"⟩ : MethodName)) hown (mvT hZ (hw _ (List.mem_of_getElem? (i := 6) rfl))) (mvT hZ (hw _ (List.mem_of_getElem? (i := 7) rfl))) (mvT hZ (hw _ (List.mem_of_getElem? (i := 8) rfl))) (mvT hZ (hw _ (List.mem_of_getElem? (i := 9) rfl))) (by decide) (backOf (W := 0) (rm1 l Z a0 hw [] (own_min (own_pos q1) (own_pos q2)) (own_pos q3) h0 n0 Z0) hZ (hw _ (List.mem_of_getElem? (i := 9) rfl)) (hw _ (List.mem_of_getElem? (i := 8) rfl)) (by decide) (by decide)) (g := (mkF m 28 #[.val (.long q1), .second, .val (.long q2), .second, .val (.long q3), .second, .val (.long (own_pos q1)), .second, .val (.long (own_pos q2)), .second, .val (.long (own_pos q3)), .second, .unset, .unset, .unset, .unset, .unset, .unset, .unset, .unset, .unset, .unset, .unset, .unset, .unset] [(.long (own_pos q3)), (.long (own_min (own_pos q1) (own_pos q2)))])) rfl (by rw [hml]; rfl) (argsL := [(.long (own_min (own_pos q1) (own_pos q2))), (.long (own_pos q3))]) (rest := []) (lenOf pd_1 rfl) rfl (by show 2 * 0 + _ ≤ _; exact Nat.le_of_eq rfl) (hb hby at_28) (fun _ _ => ⟨rfl, e27, (by decide : 0 + 0 ≤ _), (by decide : 0 + 0 ≤ _)⟩)
  dsimp only [Pt.U, Pt.locs, Pt.cells, Pt.slots] at X28 l28 y28 z28 st28 hQ28
  subst l28 y28 z28
  obtain ⟨rfl, N28q, e28⟩ := hQ28
  have N28 := Fr.app N27 N28q
  refine Goes.step (S' := T28.setTop (mkF m 31 #[.val (.long q1), .second, .val (.long q2), .second, .val (.long q3), .second, .val (.long (own_pos q1)), .second, .val (.long (own_pos q2)), .second, .val (.long (own_pos q3)), .second, .unset, .unset, .unset, .unset, .unset, .unset, .unset, .unset, .unset, .unset, .unset, .unset, .unset] [(.long (own_f (own_pos q1) (own_pos q2) (own_pos q3)))])) (fun t k => st28 t k) ?_
  refine Goes.step (S' := T28.setTop (mkF m 33 #[.val (.long q1), .second, .val (.long q2), .second, .val (.long q3), .second, .val (.long (own_pos q1)), .second, .val (.long (own_pos q2)), .second, .val (.long (own_pos q3)), .second, .val (.long (own_f (own_pos q1) (own_pos q2) (own_pos q3))), .second, .unset, .unset, .unset, .unset, .unset, .unset, .unset, .unset, .unset, .unset, .unset] [])) (fun t k => XS.lstore X28.here hx rfl (hb hby at_31) rfl (l' := #[.val (.long q1), .second, .val (.long q2), .second, .val (.long q3), .second, .val (.long (own_pos q1)), .second, .val (.long (own_pos q2)), .second, .val (.long (own_pos q3)), .second, .val (.long (own_f (own_pos q1) (own_pos q2) (own_pos q3))), .second, .unset, .unset, .unset, .unset, .unset, .unset, .unset, .unset, .unset, .unset, .unset]) rfl k) ?_
  refine Goes.step (S' := T28.setTop (mkF m 35 #[.val (.long q1), .second, .val (.long q2), .second, .val (.long q3), .second, .val (.long (own_pos q1)), .second, .val (.long (own_pos q2)), .second, .val (.long (own_pos q3)), .second, .val (.long (own_f (own_pos q1) (own_pos q2) (own_pos q3))), .second, .unset, .unset, .unset, .unset, .unset, .unset, .unset, .unset, .unset, .unset, .unset] [(.long (own_pos q1))])) (fun t k => XS.lload X28.here hx rfl (hb hby at_33) rfl k) ?_
  refine Goes.step (S' := T28.setTop (mkF m 37 #[.val (.long q1), .second, .val (.long q2), .second, .val (.long q3), .second, .val (.long (own_pos q1)), .second, .val (.long (own_pos q2)), .second, .val (.long (own_pos q3)), .second, .val (.long (own_f (own_pos q1) (own_pos q2) (own_pos q3))), .second, .unset, .unset, .unset, .unset, .unset, .unset, .unset, .unset, .unset, .unset, .unset] [(.long (own_pos q2)), (.long (own_pos q1))])) (fun t k => XS.lload X28.here hx rfl (hb hby at_35) rfl k) ?_
  obtain ⟨_, _, ⟨T29, L29, k29, n29⟩, -, X29, ⟨Lc29, hQ29, l29, y29, z29⟩, st29⟩ := Jvm.LawKit.callS X28 hx (y := (⟨"java/lang/Math", "max", "(JJ)J"⟩ : MethodName)) hown (mvT hZ (hw _ (List.mem_of_getElem? (i := 10) rfl))) (mvT hZ (hw _ (List.mem_of_getElem? (i := 11) rfl))) (mvT hZ (hw _ (List.mem_of_getElem? (i := 8) rfl))) (mvT hZ (hw _ (List.mem_of_getElem? (i := 12) rfl))) (by decide) (backOf (W := 0) (rm2 l Z a0 hw [] (own_pos q1) (own_pos q2) h0 n0 Z0) hZ (hw _ (List.mem_of_getElem? (i := 12) rfl)) (hw _ (List.mem_of_getElem? (i := 8) rfl)) (by decide) (by decide)) (g := (mkF m 37 #[.val (.long q1), .second, .val (.long q2), .second, .val (.long q3), .second, .val (.long (own_pos q1)), .second, .val (.long (own_pos q2)), .second, .val (.long (own_pos q3)), .second, .val (.long (own_f (own_pos q1) (own_pos q2) (own_pos q3))), .second, .unset, .unset, .unset, .unset, .unset, .unset, .unset, .unset, .unset, .unset, .unset] [(.long (own_pos q2)), (.long (own_pos q1))])) rfl (by rw [hml]; rfl) (argsL := [(.long (own_pos q1)), (.long (own_pos q2))]) (rest := []) (lenOf pd_2 rfl) rfl (by show 2 * 0 + _ ≤ _; exact Nat.le_of_eq rfl) (hb hby at_37) (fun _ _ => ⟨rfl, e28, (by decide : 0 + 0 ≤ _), (by decide : 0 + 0 ≤ _)⟩)
  dsimp only [Pt.U, Pt.locs, Pt.cells, Pt.slots] at X29 l29 y29 z29 st29 hQ29
  subst l29 y29 z29
  obtain ⟨rfl, N29q, e29⟩ := hQ29
  have N29 := Fr.app N28 N29q
  refine Goes.step (S' := T29.setTop (mkF m 40 #[.val (.long q1), .second, .val (.long q2), .second, .val (.long q3), .second, .val (.long (own_pos q1)), .second, .val (.long (own_pos q2)), .second, .val (.long (own_pos q3)), .second, .val (.long (own_f (own_pos q1) (own_pos q2) (own_pos q3))), .second, .unset, .unset, .unset, .unset, .unset, .unset, .unset, .unset, .unset, .unset, .unset] [(.long (own_max (own_pos q1) (own_pos q2)))])) (fun t k => st29 t k) ?_
  refine Goes.step (S' := T29.setTop (mkF m 42 #[.val (.long q1), .second, .val (.long q2), .second, .val (.long q3), .second, .val (.long (own_pos q1)), .second, .val (.long (own_pos q2)), .second, .val (.long (own_pos q3)), .second, .val (.long (own_f (own_pos q1) (own_pos q2) (own_pos q3))), .second, .unset, .unset, .unset, .unset, .unset, .unset, .unset, .unset, .unset, .unset, .unset] [(.long (own_pos q3)), (.long (own_max (own_pos q1) (own_pos q2)))])) (fun t k => XS.lload X29.here hx rfl (hb hby at_40) rfl k) ?_
  obtain ⟨_, _, ⟨T30, L30, k30, n30⟩, -, X30, ⟨Lc30, hQ30, l30, y30, z30⟩, st30⟩ := Jvm.LawKit.callS X29 hx (y := (⟨"java/lang/Math", "max", "(JJ)J"⟩ : MethodName)) hown (mvT hZ (hw _ (List.mem_of_getElem? (i := 10) rfl))) (mvT hZ (hw _ (List.mem_of_getElem? (i := 11) rfl))) (mvT hZ (hw _ (List.mem_of_getElem? (i := 8) rfl))) (mvT hZ (hw _ (List.mem_of_getElem? (i := 12) rfl))) (by decide) (backOf (W := 0) (rm2 l Z a0 hw [] (own_max (own_pos q1) (own_pos q2)) (own_pos q3) h0 n0 Z0) hZ (hw _ (List.mem_of_getElem? (i := 12) rfl)) (hw _ (List.mem_of_getElem? (i := 8) rfl)) (by decide) (by decide)) (g := (mkF m 42 #[.val (.long q1), .second, .val (.long q2), .second, .val (.long q3), .second, .val (.long (own_pos q1)), .second, .val (.long (own_pos q2)), .second, .val (.long (own_pos q3)), .second, .val (.long (own_f (own_pos q1) (own_pos q2) (own_pos q3))), .second, .unset, .unset, .unset, .unset, .unset, .unset, .unset, .unset, .unset, .unset, .unset] [(.long (own_pos q3)), (.long (own_max (own_pos q1) (own_pos q2)))])) rfl (by rw [hml]; rfl) (argsL := [(.long (own_max (own_pos q1) (own_pos q2))), (.long (own_pos q3))]) (rest := []) (lenOf pd_2 rfl) rfl (by show 2 * 0 + _ ≤ _; exact Nat.le_of_eq rfl) (hb hby at_42) (fun _ _ => ⟨rfl, e29, (by decide : 0 + 0 ≤ _), (by decide : 0 + 0 ≤ _)⟩)
  dsimp only [Pt.U, Pt.locs, Pt.cells, Pt.slots] at X30 l30 y30 z30 st30 hQ30
  subst l30 y30 z30
  obtain ⟨rfl, N30q, e30⟩ := hQ30
  have N30 := Fr.app N29 N30q
  refine Goes.step (S' := T30.setTop (mkF m 45 #[.val (.long q1), .second, .val (.long q2), .second, .val (.long q3), .second, .val (.long (own_pos q1)), .second, .val (.long (own_pos q2)), .second, .val (.long (own_pos q3)), .second, .val (.long (own_f (own_pos q1) (own_pos q2) (own_pos q3))), .second, .unset, .unset, .unset, .unset, .unset, .unset, .unset, .unset, .unset, .unset, .unset] [(.long (own_l (own_pos q1) (own_pos q2) (own_pos q3)))])) (fun t k => st30 t k) ?_
  refine Goes.step (S' := T30.setTop (mkF m 47 #[.val (.long q1), .second, .val (.long q2), .second, .val (.long q3), .second, .val (.long (own_pos q1)), .second, .val (.long (own_pos q2)), .second, .val (.long (own_pos q3)), .second, .val (.long (own_f (own_pos q1) (own_pos q2) (own_pos q3))), .second, .val (.long (own_l (own_pos q1) (own_pos q2) (own_pos q3))), .second, .unset, .unset, .unset, .unset, .unset, .unset, .unset, .unset, .unset] [])) (fun t k => XS.lstore X30.here hx rfl (hb hby at_45) rfl (l' := #[.val (.long q1), .second, .val (.long q2), .second, .val (.long q3), .second, .val (.long (own_pos q1)), .second, .val (.long (own_pos q2)), .second, .val (.long (own_pos q3)), .second, .val (.long (own_f (own_pos q1) (own_pos q2) (own_pos q3))), .second, .val (.long (own_l (own_pos q1) (own_pos q2) (own_pos q3))), .second, .unset, .unset, .unset, .unset, .unset, .unset, .unset, .unset, .unset]) rfl k) ?_
  refine Goes.step (S' := T30.setTop (mkF m 49 #[.val (.long q1), .second, .val (.long q2), .second, .val (.long q3), .second, .val (.long (own_pos q1)), .second, .val (.long (own_pos q2)), .second, .val (.long (own_pos q3)), .second, .val (.long (own_f (own_pos q1) (own_pos q2) (own_pos q3))), .second, .val (.long (own_l (own_pos q1) (own_pos q2) (own_pos q3))), .second, .unset, .unset, .unset, .unset, .unset, .unset, .unset, .unset, .unset] [(.long (own_pos q1))])) (fun t k => XS.lload X30.here hx rfl (hb hby at_47) rfl k) ?_
  refine Goes.step (S' := T30.setTop (mkF m 51 #[.val (.long q1), .second, .val (.long q2), .second, .val (.long q3), .second, .val (.long (own_pos q1)), .second, .val (.long (own_pos q2)), .second, .val (.long (own_pos q3)), .second, .val (.long (own_f (own_pos q1) (own_pos q2) (own_pos q3))), .second, .val (.long (own_l (own_pos q1) (own_pos q2) (own_pos q3))), .second, .unset, .unset, .unset, .unset, .unset, .unset, .unset, .unset, .unset] [(.long (own_pos q2)), (.long (own_pos q1))])) (fun t k => XS.lload X30.here hx rfl (hb hby at_49) rfl k) ?_
  obtain ⟨_, _, ⟨T31, L31, k31, n31⟩, -, X31, ⟨Lc31, hQ31, l31, y31, z31⟩, st31⟩ := Jvm.LawKit.callS X30 hx (y := (⟨"java/lang/Math", "min", "(JJ)J"⟩ : MethodName)) hown (mvT hZ (hw _ (List.mem_of_getElem? (i := 6) rfl))) (mvT hZ (hw _ (List.mem_of_getElem? (i := 7) rfl))) (mvT hZ (hw _ (List.mem_of_getElem? (i := 8) rfl))) (mvT hZ (hw _ (List.mem_of_getElem? (i := 9) rfl))) (by decide) (backOf (W := 0) (rm1 l Z a0 hw [] (own_pos q1) (own_pos q2) h0 n0 Z0) hZ (hw _ (List.mem_of_getElem? (i := 9) rfl)) (hw _ (List.mem_of_getElem? (i := 8) rfl)) (by decide) (by decide)) (g := (mkF m 51 #[.val (.long q1), .second, .val (.long q2), .second, .val (.long q3), .second, .val (.long (own_pos q1)), .second, .val (.long (own_pos q2)), .second, .val (.long (own_pos q3)), .second, .val (.long (own_f (own_pos q1) (own_pos q2) (own_pos q3))), .second, .val (.long (own_l (own_pos q1) (own_pos q2) (own_pos q3))), .second, .unset, .unset, .unset, .unset, .unset, .unset, .unset, .unset, .unset] [(.long (own_pos q2)), (.long (own_pos q1))])) rfl (by rw [hml]; rfl) (argsL := [(.long (own_pos q1)), (.long (own_pos q2))]) (rest := []) (lenOf pd_1 rfl) rfl (by show 2 * 0 + _ ≤ _; exact Nat.le_of_eq rfl) (hb hby at_51) (fun _ _ => ⟨rfl, e30, (by decide : 0 + 0 ≤ _), (by decide : 0 + 0 ≤ _)⟩)
  dsimp only [Pt.U, Pt.locs, Pt.cells, Pt.slots] at X31 l31 y31 z31 st31 hQ31
  subst l31 y31 z31
  obtain ⟨rfl, N31q, e31⟩ := hQ31
  have N31 := Fr.app N30 N31q
  refine Goes.step (S' := T31.setTop (mkF m 54 #[.val (.long q1), .second, .val (.long q2), .second, .val (.long q3), .second, .val (.long (own_pos q1)), .second, .val (.long (own_pos q2)), .second, .val (.long (own_pos q3)), .second, .val (.long (own_f (own_pos q1) (own_pos q2) (own_pos q3))), .second, .val (.long (own_l (own_pos q1) (own_pos q2) (own_pos q3))), .second, .unset, .unset, .unset, .unset, .unset, .unset, .unset, .unset, .unset] [(.long (own_min (own_pos q1) (own_pos q2)))])) (fun t k => st31 t k) ?_
  refine Goes.step (S' := T31.setTop (mkF m 56 #[.val (.long q1), .second, .val (.long q2), .second, .val (.long q3), .second, .val (.long (own_pos q1)), .second, .val (.long (own_pos q2)), .second, .val (.long (own_pos q3)), .second, .val (.long (own_f (own_pos q1) (own_pos q2) (own_pos q3))), .second, .val (.long (own_l (own_pos q1) (own_pos q2) (own_pos q3))), .second, .unset, .unset, .unset, .unset, .unset, .unset, .unset, .unset, .unset] [(.long (own_pos q1)), (.long (own_min (own_pos q1) (own_pos q2)))])) (fun t k => XS.lload X31.here hx rfl (hb hby at_54) rfl k) ?_
  refine Goes.step (S' := T31.setTop (mkF m 58 #[.val (.long q1), .second, .val (.long q2), .second, .val (.long q3), .second, .val (.long (own_pos q1)), .second, .val (.long (own_pos q2)), .second, .val (.long (own_pos q3)), .second, .val (.long (own_f (own_pos q1) (own_pos q2) (own_pos q3))), .second, .val (.long (own_l (own_pos q1) (own_pos q2) (own_pos q3))), .second, .unset, .unset, .unset, .unset, .unset, .unset, .unset, .unset, .unset] [(.long (own_pos q2)), (.long (own_pos q1)), (.long (own_min (own_pos q1) (own_pos q2)))])) (fun t k => XS.lload X31.here hx rfl (hb hby at_56) rfl k) ?_
  obtain ⟨_, _, ⟨T32, L32, k32, n32⟩, -, X32, ⟨Lc32, hQ32, l32, y32, z32⟩, st32⟩ := Jvm.LawKit.callS X31 hx (y := (⟨"java/lang/Math", "max", "(JJ)J"⟩ : MethodName)) hown (mvT hZ (hw _ (List.mem_of_getElem? (i := 10) rfl))) (mvT hZ (hw _ (List.mem_of_getElem? (i := 11) rfl))) (mvT hZ (hw _ (List.mem_of_getElem? (i := 8) rfl))) (mvT hZ (hw _ (List.mem_of_getElem? (i := 12) rfl))) (by decide) (backOf (W := 2) (rm2 l Z a0 hw [] (own_pos q1) (own_pos q2) h0 n0 Z0) hZ (hw _ (List.mem_of_getElem? (i := 12) rfl)) (hw _ (List.mem_of_getElem? (i := 8) rfl)) (by decide) (by decide)) (g := (mkF m 58 #[.val (.long q1), .second, .val (.long q2), .second, .val (.long q3), .second, .val (.long (own_pos q1)), .second, .val (.long (own_pos q2)), .second, .val (.long (own_pos q3)), .second, .val (.long (own_f (own_pos q1) (own_pos q2) (own_pos q3))), .second, .val (.long (own_l (own_pos q1) (own_pos q2) (own_pos q3))), .second, .unset, .unset, .unset, .unset, .unset, .unset, .unset, .unset, .unset] [(.long (own_pos q2)), (.long (own_pos q1)), (.long (own_min (own_pos q1) (own_pos q2)))])) rfl (by rw [hml]; rfl) (argsL := [(.long (own_pos q1)), (.long (own_pos q2))]) (rest := [(.long (own_min (own_pos q1) (own_pos q2)))]) (lenOf pd_2 rfl) rfl (by show 2 * 0 + _ ≤ _; exact Nat.le_of_eq rfl) (hb hby at_58) (fun _ _ => ⟨rfl, e31, (by decide : 0 + 0 ≤ _), (by decide : 0 + 0 ≤ _)⟩)
  dsimp only [Pt.U, Pt.locs, Pt.cells, Pt.slots] at X32 l32 y32 z32 st32 hQ32
  subst l32 y32 z32
  obtain ⟨rfl, N32q, e32⟩ := hQ32
  have N32 := Fr.app N31 N32q
  refine Goes.step (S' := T32.setTop (mkF m 61 #[.val (.long q1), .second, .val (.long q2), .second, .val (.long q3), .second, .val (.long (own_pos q1)), .second, .val (.long (own_pos q2)), .second, .val (.long (own_pos q3)), .second, .val (.long (own_f (own_pos q1) (own_pos q2) (own_pos q3))), .second, .val (.long (own_l (own_pos q1) (own_pos q2) (own_pos q3))), .second, .unset, .unset, .unset, .unset, .unset, .unset, .unset, .unset, .unset] [(.long (own_max (own_pos q1) (own_pos q2))), (.long (own_min (own_pos q1) (own_pos q2)))])) (fun t k => st32 t k) ?_
  refine Goes.step (S' := T32.setTop (mkF m 63 #[.val (.long q1), .second, .val (.long q2), .second, .val (.long q3), .second, .val (.long (own_pos q1)), .second, .val (.long (own_pos q2)), .second, .val (.long (own_pos q3)), .second, .val (.long (own_f (own_pos q1) (own_pos q2) (own_pos q3))), .second, .val (.long (own_l (own_pos q1) (own_pos q2) (own_pos q3))), .second, .unset, .unset, .unset, .unset, .unset, .unset, .unset, .unset, .unset] [(.long (own_pos q3)), (.long (own_max (own_pos q1) (own_pos q2))), (.long (own_min (own_pos q1) (own_pos q2)))])) (fun t k => XS.lload X32.here hx rfl (hb hby at_61) rfl k) ?_
  obtain ⟨_, _, ⟨T33, L33, k33, n33⟩, -, X33, ⟨Lc33, hQ33, l33, y33, z33⟩, st33⟩ := Jvm.LawKit.callS X32 hx (y := (⟨"java/lang/Math", "min", "(JJ)J"⟩ : MethodName)) hown (mvT hZ (hw _ (List.mem_of_getElem? (i := 6) rfl))) (mvT hZ (hw _ (List.mem_of_getElem? (i := 7) rfl))) (mvT hZ (hw _ (List.mem_of_getElem? (i := 8) rfl))) (mvT hZ (hw _ (List.mem_of_getElem? (i := 9) rfl))) (by decide) (backOf (W := 2) (rm1 l Z a0 hw [] (own_max (own_pos q1) (own_pos q2)) (own_pos q3) h0 n0 Z0) hZ (hw _ (List.mem_of_getElem? (i := 9) rfl)) (hw _ (List.mem_of_getElem? (i := 8) rfl)) (by decide) (by decide)) (g := (mkF m 63 #[.val (.long q1), .second, .val (.long q2), .second, .val (.long q3), .second, .val (.long (own_pos q1)), .second, .val (.long (own_pos q2)), .second, .val (.long (own_pos q3)), .second, .val (.long (own_f (own_pos q1) (own_pos q2) (own_pos q3))), .second, .val (.long (own_l (own_pos q1) (own_pos q2) (own_pos q3))), .second, .unset, .unset, .unset, .unset, .unset, .unset, .unset, .unset, .unset] [(.long (own_pos q3)), (.long (own_max (own_pos q1) (own_pos q2))), (.long (own_min (own_pos q1) (own_pos q2)))])) rfl (by rw [hml]; rfl) (argsL := [(.long (own_max (own_pos q1) (own_pos q2))), (.long (own_pos q3))]) (rest := [(.long (own_min (own_pos q1) (own_pos q2)))]) (lenOf pd_1 rfl) rfl (by show 2 * 0 + _ ≤ _; exact Nat.le_of_eq rfl) (hb hby at_63) (fun _ _ => ⟨rfl, e32, (by decide : 0 + 0 ≤ _), (by decide : 0 + 0 ≤ _)⟩)
  dsimp only [Pt.U, Pt.locs, Pt.cells, Pt.slots] at X33 l33 y33 z33 st33 hQ33
  subst l33 y33 z33
  obtain ⟨rfl, N33q, e33⟩ := hQ33
  have N33 := Fr.app N32 N33q
  refine Goes.step (S' := T33.setTop (mkF m 66 #[.val (.long q1), .second, .val (.long q2), .second, .val (.long q3), .second, .val (.long (own_pos q1)), .second, .val (.long (own_pos q2)), .second, .val (.long (own_pos q3)), .second, .val (.long (own_f (own_pos q1) (own_pos q2) (own_pos q3))), .second, .val (.long (own_l (own_pos q1) (own_pos q2) (own_pos q3))), .second, .unset, .unset, .unset, .unset, .unset, .unset, .unset, .unset, .unset] [(.long (own_min (own_max (own_pos q1) (own_pos q2)) (own_pos q3))), (.long (own_min (own_pos q1) (own_pos q2)))])) (fun t k => st33 t k) ?_
  obtain ⟨_, _, ⟨T34, L34, k34, n34⟩, -, X34, ⟨Lc34, hQ34, l34, y34, z34⟩, st34⟩ := Jvm.LawKit.callS X33 hx (y := (⟨"java/lang/Math", "max", "(JJ)J"⟩ : MethodName)) hown (mvT hZ (hw _ (List.mem_of_getElem? (i := 10) rfl))) (mvT hZ (hw _ (List.mem_of_getElem? (i := 11) rfl))) (mvT hZ (hw _ (List.mem_of_getElem? (i := 8) rfl))) (mvT hZ (hw _ (List.mem_of_getElem? (i := 12) rfl))) (by decide) (backOf (W := 0) (rm2 l Z a0 hw [] (own_min (own_pos q1) (own_pos q2)) (own_min (own_max (own_pos q1) (own_pos q2)) (own_pos q3)) h0 n0 Z0) hZ (hw _ (List.mem_of_getElem? (i := 12) rfl)) (hw _ (List.mem_of_getElem? (i := 8) rfl)) (by decide) (by decide)) (g := (mkF m 66 #[.val (.long q1), .second, .val (.long q2), .second, .val (.long q3), .second, .val (.long (own_pos q1)), .second, .val (.long (own_pos q2)), .second, .val (.long (own_pos q3)), .second, .val (.long (own_f (own_pos q1) (own_pos q2) (own_pos q3))), .second, .val (.long (own_l (own_pos q1) (own_pos q2) (own_pos q3))), .second, .unset, .unset, .unset, .unset, .unset, .unset, .unset, .unset, .unset] [(.long (own_min (own_max (own_pos q1) (own_pos q2)) (own_pos q3))), (.long (own_min (own_pos q1) (own_pos q2)))])) rfl (by rw [hml]; rfl) (argsL := [(.long (own_min (own_pos q1) (own_pos q2))), (.long (own_min (own_max (own_pos q1) (own_pos q2)) (own_pos q3)))]) (rest := []) (lenOf pd_2 rfl) rfl (by show 2 * 0 + _ ≤ _; exact Nat.le_of_eq rfl) (hb hby at_66) (fun _ _ => ⟨rfl, e33, (by decide : 0 + 0 ≤ _), (by decide : 0 + 0 ≤ _)⟩)
  dsimp only [Pt.U, Pt.locs, Pt.cells, Pt.slots] at X34 l34 y34 z34 st34 hQ34
  subst l34 y34 z34
  obtain ⟨rfl, N34q, e34⟩ := hQ34
  have N34 := Fr.app N33 N34q
  refine Goes.step (S' := T34.setTop (mkF m 69 #[.val (.long q1), .second, .val (.long q2), .second, .val (.long q3), .second, .val (.long (own_pos q1)), .second, .val (.long (own_pos q2)), .second, .val (.long (own_pos q3)), .second, .val (.long (own_f (own_pos q1) (own_pos q2) (own_pos q3))), .second, .val (.long (own_l (own_pos q1) (own_pos q2) (own_pos q3))), .second, .unset, .unset, .unset, .unset, .unset, .unset, .unset, .unset, .unset] [(.long (own_m (own_pos q1) (own_pos q2) (own_pos q3)))])) (fun t k => st34 t k) ?_
  refine Goes.step (S' := T34.setTop (mkF m 71 #[.val (.long q1), .second, .val (.long q2), .second, .val (.long q3), .second, .val (.long (own_pos q1)), .second, .val (.long (own_pos q2)), .second, .val (.long (own_pos q3)), .second, .val (.long (own_f (own_pos q1) (own_pos q2) (own_pos q3))), .second, .val (.long (own_l (own_pos q1) (own_pos q2) (own_pos q3))), .second, .val (.long (own_m (own_pos q1) (own_pos q2) (own_pos q3))), .second, .unset, .unset, .unset, .unset, .unset, .unset, .unset] [])) (fun t k => XS.lstore X34.here hx rfl (hb hby at_69) rfl (l' := #[.val (.long q1), .second, .val (.long q2), .second, .val (.long q3), .second, .val (.long (own_pos q1)), .second, .val (.long (own_pos q2)), .second, .val (.long (own_pos q3)), .second, .val (.long (own_f (own_pos q1) (own_pos q2) (own_pos q3))), .second, .val (.long (own_l (own_pos q1) (own_pos q2) (own_pos q3))), .second, .val (.long (own_m (own_pos q1) (own_pos q2) (own_pos q3))), .second, .unset, .unset, .unset, .unset, .unset, .unset, .unset]) rfl k) ?_
  obtain ⟨o1, o2, o3, o4⟩ := own_order (own_pos q1) (own_pos q2) (own_pos q3) (own_pos_i q1) (own_pos_i q2) (own_pos_i q3)
  exact K71 _ _ X34 e34 N34 _ _ _ _ _ _ o1 o2 o3 o4
set_option maxRecDepth 65536 in
set_option maxHeartbeats 40000000 in
theorem comes_1 {Post : Tables → Env → Array Value → State → Outcome → State → Prop} (hpost : ∀ tb e args s v u, (limb_1_1.after args s (.returned v) u = true ∧ limb_1_2.after args s (.returned v) u = true ∧ True) → FrameEnd s (.returned v) u (Jvm.fieldLocs frame_1_writes args s ++ Jvm.arrayLocs frame_1_arrays args s ++ Jvm.staticLocs frame_1_statics s) 24 128 → Post tb e args s (.returned v) u) :
    ArmFor flags0 classFile x code maxLocals ret World_1 tables_1 room_1 Calls_1 rest_1 Pre_1 Post := by
  intro l hfl _ _ p e ha hc hk s m args below hf hA hF happ hP
  obtain ⟨hcalls, hrest, hpre⟩ := hP
  obtain ⟨-, -, -, hnamed, -, -, -, hat⟩ := (Spec.applies_iff hf).mp happ
  obtain ⟨hg, hn⟩ := and_e (Cond.before_iff.mp (show (Jvm.Cond.and given_1 narrow_1).before args s = true from hpre))
  obtain ⟨h1, ha0⟩ := and_e hg
  obtain ⟨w0, w1, w2, rfl⟩ : ∃ w0 w1 w2 : Value, args = #[w0, w1, w2] := by
    have hs : args.size = 3 := by simpa [Cond.value, given_1] using h1
    obtain ⟨L⟩ := args
    match L, hs with
    | [w0, w1, w2], _ => exact ⟨w0, w1, w2, rfl⟩
  have hw := fun d (hd : d ∈ tables_1) => atoms_spec (ws := Jvm.Cond.code x code maxLocals ret :: tables_1) hat d (List.mem_cons_of_mem _ hd)
  have hfit : Fit s := fun {y c} hc i hi => by
    obtain ⟨ha, rfl⟩ := Array.getElem?_eq_some_iff.mp hc
    have q := List.all_eq_true.mp ((Array.all_eq_true_iff_forall_mem.mp hF) _ (Array.getElem_mem ha)) i (List.mem_range.mpr hi)
    simpa [Array.getElem?_eq_getElem hi] using q
  obtain ⟨hv0, ha1⟩ := and_e ha0
  obtain ⟨i0, ei0⟩ := isL_v hv0
  obtain rfl : w0 = (.long i0) := Option.some.inj ei0
  obtain ⟨hv1, ha2⟩ := and_e ha1
  obtain ⟨i1, ei1⟩ := isL_v hv1
  obtain rfl : w1 = (.long i1) := Option.some.inj ei1
  obtain ⟨i2, ei2⟩ := isL_v ha2
  obtain rfl : w2 = (.long i2) := Option.some.inj ei2
  obtain ⟨n, o, h1, h2, h3, _, L, rfl, ⟨rfl, N⟩, hq⟩ := rm0 l s _ hw tables_1 i0 i1 i2  s.heap s.heap.size (Nat.le_refl _)  p e ha hc hk s m _ below hf ((Spec.applies_iff_loose hf).mp happ).1 ⟨rfl, State.Warmed39.refl s, rfl⟩ trivial
  refine ⟨n, _, h1, h2, h3, hpost _ _ _ _ _ _ ⟨Cond.after_iff.mpr rfl, Cond.after_iff.mpr (eq_i res_at (Term.int_eval (1)) rfl), trivial⟩ ⟨hq.1, hq.2.1, (hq.2.2.sift fun y hy => Or.inr (N y hy)).mono (by decide) (by decide)⟩⟩
theorem main_1_1 : Claimed_1_1 := comes_1 fun _ _ _ _ _ _ h hF => ⟨h.1, hF⟩
theorem main_1_2 : Claimed_1_2 := comes_1 fun _ _ _ _ _ _ h hF => ⟨h.2.1, hF⟩
end Jvm.Pilot.@@N@@
namespace Jvm.Pilot.@@N@@
open Jvm Jvm.ClassFile Sem Op Lib Jvm.Free Jvm.Stand Jvm.Pilot.@@N@@.Jvm.D
/-! MADE BY PROGRAM (witnessworld.py) out of the Statement's table words and the real class files: 11 classes; the members and pool entries that the words name. The judged class is class 1, her method 2. -/
namespace start1
open Jvm.ClassFile
def u (s : String) : CpInfo := .utf8 (stringToUtf16 s)
/-- a pool by its gaps: so many unusable entries, then the entry; so many at the end -/
def gap : Nat → List CpInfo → List CpInfo
  | 0, r => r
  | n + 1, r => .unusable :: gap n r
def poolList (es : List (Nat × CpInfo)) (last : Nat) : List CpInfo := es.foldr (fun e r => gap e.1 (e.2 :: r)) (gap last [])
def pool (es : List (Nat × CpInfo)) (last : Nat) : Array CpInfo := ⟨poolList es last⟩
def fileOf (pool : Array CpInfo) (this : Nat) (attrs : Array Attribute := #[]) (ms : Array MethodInfo := #[]) (fl : Nat := 33) (sup : Nat := 0) (ifs : Array Nat := #[]) (fds : Array FieldInfo := #[]) : ClassFile where
  minorVersion := 0
  majorVersion := 65
  constantPool := pool
  accessFlags := fl
  thisClass := this
  superClass := sup
  interfaces := ifs
  fields := fds
  methods := ms
  attributes := attrs
def plain (name : String) (sup : Option ClassId) : Class where
  name := name
  kind := .ordinary
  loader := none
  accessFlags := 33
  super := sup
  interfaces := #[]
  cf := none
  fields := #[]
  methods := #[]
  instanceTypes := #[]
  staticTypes := #[]
  resolved := #[]
  callSites := []
  init := .initialized
  statics := none
  mirror := none

def pool0 : Array CpInfo := pool [(5, u "<init>"), (0, u "()V"), (1, .class_ 10), (1, u "java/lang/Object")] 113

def k0c0 : Code := { maxStack := 0, maxLocals := 1, code := object_method_1_code, exceptionTable := #[], attributes := #[] }
def k0m0 : Method := { name := "<init>", desc := "()V", sig := { parameters := [], returnType := none }, accessFlags := 1, code := some k0c0 }
/-- java/lang/Object -/
def k0 : Class := { plain "java/lang/Object" none with
  accessFlags := 33
  interfaces := #[]
  cf := some (fileOf pool0 8 #[] #[{ accessFlags := 1, nameIndex := 5, descriptorIndex := 6, attributes := #[] }] 33 0 #[] #[])
  fields := #[]
  methods := #[k0m0]
  instanceTypes := #[]
  staticTypes := #[]
  resolved := Array.replicate 124 none
  statics := none }

def pool1 : Array CpInfo := pool [(2, .class_ 4), (1, u "java/lang/Object"), (0, u "<init>"), (0, u "()V"), (2, .long 9223372036854775807), (1, .long 9223372036854775806), (1, .methodref 14 15), (0, .class_ 16), (0, .nameAndType 17 18), (0, u "java/lang/Math"), (0, u "min"), (0, u "(JJ)J"), (0, .methodref 20 21), (0, .class_ 22), (0, .nameAndType 23 24), (0, u "com/example/enact/enact/ByteRangeLengthPinLaw"), (0, u "pos"), (0, u "(J)J"), (0, .methodref 14 26), (0, .nameAndType 27 18), (0, u "max"), (0, .class_ 29), (0, u "com/example/enact/enact/ByteRange"), (0, .methodref 28 31), (0, .nameAndType 5 32), (0, u "(JJ)V"), (0, .methodref 28 34), (0, .nameAndType 35 36), (0, u "length"), (0, u "()J"), (2, u "law"), (0, u "(JJJ)Z")] 3

def k1m0 : Method := { name := "<init>", desc := "()V", sig := { parameters := [], returnType := none }, accessFlags := 1, code := none }
def k1c1 : Code := { maxStack := 4, maxLocals := 2, code := method_2_code, exceptionTable := #[], attributes := #[] }
def k1m1 : Method := { name := "pos", desc := "(J)J", sig := { parameters := [.long], returnType := some .long }, accessFlags := 10, code := some k1c1 }
def k1c2 : Code := { maxStack := 6, maxLocals := 25, code := code, exceptionTable := #[], attributes := #[] }
def k1m2 : Method := { name := "law", desc := "(JJJ)Z", sig := { parameters := [.long, .long, .long], returnType := some .boolean }, accessFlags := 9, code := some k1c2 }
/-- com/example/enact/enact/ByteRangeLengthPinLaw -/
def k1 : Class := { plain "com/example/enact/enact/ByteRangeLengthPinLaw" (some 0) with
  accessFlags := 49
  interfaces := #[]
  cf := some (fileOf pool1 20 #[] #[{ accessFlags := 1, nameIndex := 5, descriptorIndex := 6, attributes := #[] }, { accessFlags := 10, nameIndex := 23, descriptorIndex := 24, attributes := #[] }, { accessFlags := 9, nameIndex := 39, descriptorIndex := 40, attributes := #[] }] 49 2 #[] #[])
  fields := #[]
  methods := #[k1m0, k1m1, k1m2]
  instanceTypes := #[]
  staticTypes := #[]
  resolved := Array.replicate 44 none
  statics := none }

def pool2 : Array CpInfo := pool [(1, .class_ 2), (0, u "java/lang/Math"), (1, .class_ 6), (1, u "java/lang/Object"), (0, u "<init>"), (0, u "()V"), (89, .class_ 100), (1, u "java/lang/Math$RandomNumberGeneratorHolder"), (20, u "(JJ)J"), (50, u "negativeZeroFloatBits"), (0, u "J"), (2, u "negativeZeroDoubleBits"), (21, u "max"), (2, u "min"), (43, u "$assertionsDisabled"), (0, u "Z"), (91, u "twoToTheDoubleScaleDown"), (0, u "D"), (4, u "twoToTheDoubleScaleUp"), (9, u "E"), (3, u "PI"), (2, u "TAU"), (2, u "DEGREES_TO_RADIANS"), (0, u "RADIANS_TO_DEGREES")] 94

def k2m0 : Method := { name := "<init>", desc := "()V", sig := { parameters := [], returnType := none }, accessFlags := 2, code := none }
def k2c1 : Code := { maxStack := 4, maxLocals := 4, code := jdk_29_method_66_code, exceptionTable := #[], attributes := #[] }
def k2m1 : Method := { name := "max", desc := "(JJ)J", sig := { parameters := [.long, .long], returnType := some .long }, accessFlags := 9, code := some k2c1 }
def k2c2 : Code := { maxStack := 4, maxLocals := 4, code := jdk_29_method_70_code, exceptionTable := #[], attributes := #[] }
def k2m2 : Method := { name := "min", desc := "(JJ)J", sig := { parameters := [.long, .long], returnType := some .long }, accessFlags := 9, code := some k2c2 }
/-- java/lang/Math -/
def k2 : Class := { plain "java/lang/Math" (some 0) with
  accessFlags := 49
  interfaces := #[]
  cf := some (fileOf pool2 1 #[.nestMembers #[98]] #[{ accessFlags := 2, nameIndex := 7, descriptorIndex := 8, attributes := #[] }, { accessFlags := 9, nameIndex := 198, descriptorIndex := 121, attributes := #[] }, { accessFlags := 9, nameIndex := 201, descriptorIndex := 121, attributes := #[] }] 49 4 #[] #[{ accessFlags := 25, nameIndex := 354, descriptorIndex := 339, attributes := #[] }, { accessFlags := 25, nameIndex := 358, descriptorIndex := 339, attributes := #[] }, { accessFlags := 25, nameIndex := 361, descriptorIndex := 339, attributes := #[] }, { accessFlags := 26, nameIndex := 364, descriptorIndex := 339, attributes := #[] }, { accessFlags := 26, nameIndex := 365, descriptorIndex := 339, attributes := #[] }, { accessFlags := 26, nameIndex := 172, descriptorIndex := 173, attributes := #[] }, { accessFlags := 26, nameIndex := 176, descriptorIndex := 173, attributes := #[] }, { accessFlags := 8, nameIndex := 344, descriptorIndex := 339, attributes := #[] }, { accessFlags := 8, nameIndex := 338, descriptorIndex := 339, attributes := #[] }, { accessFlags := 4120, nameIndex := 245, descriptorIndex := 246, attributes := #[] }])
  fields := #[{ name := "E", type := .double, accessFlags := 25, slot := 0, constantValue := 0 }, { name := "PI", type := .double, accessFlags := 25, slot := 1, constantValue := 0 }, { name := "TAU", type := .double, accessFlags := 25, slot := 2, constantValue := 0 }, { name := "DEGREES_TO_RADIANS", type := .double, accessFlags := 26, slot := 3, constantValue := 0 }, { name := "RADIANS_TO_DEGREES", type := .double, accessFlags := 26, slot := 4, constantValue := 0 }, { name := "negativeZeroFloatBits", type := .long, accessFlags := 26, slot := 5, constantValue := 0 }, { name := "negativeZeroDoubleBits", type := .long, accessFlags := 26, slot := 6, constantValue := 0 }, { name := "twoToTheDoubleScaleUp", type := .double, accessFlags := 8, slot := 7, constantValue := 0 }, { name := "twoToTheDoubleScaleDown", type := .double, accessFlags := 8, slot := 8, constantValue := 0 }, { name := "$assertionsDisabled", type := .boolean, accessFlags := 4120, slot := 9, constantValue := 0 }]
  methods := #[k2m0, k2m1, k2m2]
  instanceTypes := #[]
  staticTypes := #[.double, .double, .double, .double, .double, .long, .long, .double, .double, .boolean]
  resolved := Array.replicate 460 none
  statics := none }

def pool3 : Array CpInfo := pool [(1, .methodref 2 3), (0, .class_ 4), (0, .nameAndType 5 6), (0, u "java/lang/Object"), (0, u "<init>"), (0, u "()V"), (0, .class_ 8), (0, u "java/lang/Record")] 13

def k3c0 : Code := { maxStack := 1, maxLocals := 1, code := jdk_30_method_1_code, exceptionTable := #[], attributes := #[] }
def k3m0 : Method := { name := "<init>", desc := "()V", sig := { parameters := [], returnType := none }, accessFlags := 4, code := some k3c0 }
/-- java/lang/Record -/
def k3 : Class := { plain "java/lang/Record" (some 0) with
  accessFlags := 1057
  interfaces := #[]
  cf := some (fileOf pool3 7 #[] #[{ accessFlags := 4, nameIndex := 5, descriptorIndex := 6, attributes := #[] }] 1057 2 #[] #[])
  fields := #[]
  methods := #[k3m0]
  instanceTypes := #[]
  staticTypes := #[]
  resolved := Array.replicate 22 none
  statics := none }

def pool4 : Array CpInfo := pool [(1, .methodref 2 3), (0, .class_ 4), (0, .nameAndType 5 6), (0, u "java/lang/Record"), (0, u "<init>"), (0, u "()V"), (0, .fieldref 8 9), (0, .class_ 10), (0, .nameAndType 11 12), (0, u "com/example/enact/enact/ByteRange"), (0, u "first"), (0, u "J"), (0, .fieldref 8 14), (0, .nameAndType 15 12), (0, u "last"), (70, .class_ 87), (0, u "com/example/enact/enact/ByteRange$NotSatisfiableException"), (37, u "(JJ)V"), (13, u "length"), (35, u "()J")] 35

def k4c0 : Code := { maxStack := 3, maxLocals := 5, code := prog_3_method_1_code, exceptionTable := #[], attributes := #[] }
def k4m0 : Method := { name := "<init>", desc := "(JJ)V", sig := { parameters := [.long, .long], returnType := none }, accessFlags := 0, code := some k4c0 }
def k4c1 : Code := { maxStack := 4, maxLocals := 1, code := prog_3_method_3_code, exceptionTable := #[], attributes := #[] }
def k4m1 : Method := { name := "length", desc := "()J", sig := { parameters := [], returnType := some .long }, accessFlags := 0, code := some k4c1 }
/-- com/example/enact/enact/ByteRange -/
def k4 : Class := { plain "com/example/enact/enact/ByteRange" (some 3) with
  accessFlags := 48
  interfaces := #[]
  cf := some (fileOf pool4 8 #[.nestMembers #[86]] #[{ accessFlags := 0, nameIndex := 5, descriptorIndex := 125, attributes := #[] }, { accessFlags := 0, nameIndex := 139, descriptorIndex := 175, attributes := #[] }] 48 2 #[] #[{ accessFlags := 18, nameIndex := 11, descriptorIndex := 12, attributes := #[] }, { accessFlags := 18, nameIndex := 15, descriptorIndex := 12, attributes := #[] }])
  fields := #[{ name := "first", type := .long, accessFlags := 18, slot := 0, constantValue := 0 }, { name := "last", type := .long, accessFlags := 18, slot := 1, constantValue := 0 }]
  methods := #[k4m0, k4m1]
  instanceTypes := #[.long, .long]
  staticTypes := #[]
  resolved := Array.replicate 211 none
  statics := none }

def pool5 : Array CpInfo := pool [(1, u "java/lang/Cloneable"), (0, .class_ 1), (0, u "java/lang/Object"), (0, .class_ 3)] 3

/-- java/lang/Cloneable -/
def k5 : Class := { plain "java/lang/Cloneable" (some 0) with
  accessFlags := 1537
  interfaces := #[]
  cf := some (fileOf pool5 2 #[] #[] 1537 4 #[] #[])
  fields := #[]
  methods := #[]
  instanceTypes := #[]
  staticTypes := #[]
  resolved := Array.replicate 8 none
  statics := none }

def pool6 : Array CpInfo := pool [(1, u "java/io/Serializable"), (0, .class_ 1), (0, u "java/lang/Object"), (0, .class_ 3)] 3

/-- java/io/Serializable -/
def k6 : Class := { plain "java/io/Serializable" (some 0) with
  accessFlags := 1537
  interfaces := #[]
  cf := some (fileOf pool6 2 #[] #[] 1537 4 #[] #[])
  fields := #[]
  methods := #[]
  instanceTypes := #[]
  staticTypes := #[]
  resolved := Array.replicate 8 none
  statics := none }

/-- the primitive byte -/
def k7 : Class := { plain "byte" none with kind := .primitive 'B', accessFlags := 0x411 }
/-- [B -/
def k8 : Class := { plain "[B" (some 0) with kind := .array 7 .byte, interfaces := #[5, 6], accessFlags := 1041 }

/-- the primitive int -/
def k9 : Class := { plain "int" none with kind := .primitive 'I', accessFlags := 0x411 }
/-- [I -/
def k10 : Class := { plain "[I" (some 0) with kind := .array 9 .int, interfaces := #[5, 6], accessFlags := 1041 }

def heap : Heap := #[]
def classes : Array Class := #[k0, k1, k2, k3, k4, k5, k6, k7, k8, k9, k10]
def interned : List (Array UInt16 × Addr) := []
def slotsUsed : Nat := 0
def theMethod : MethodId := ⟨1, 2⟩
def args0 : Array Value := #[.long 5, .long 70, .long 30]
def aboutOver (below : List Frame) : State where
  vm := { classes := classes, interned := interned.toArray }
  heap := heap
  slotsUsed := slotsUsed
  threads := #[{ frames := .invoking theMethod args0 :: below }]
def below0 : List Frame := [.native { method := ⟨0, 0⟩, args := #[] }]
def about1 : State := aboutOver below0
def p0 : Program := .bare "" "" ""
def e0 : Env := launch0.env 0 0 0
theorem w_frames : about1.frames = Frame.invoking theMethod args0 :: below0 := rfl
set_option maxRecDepth 65536 in
theorem w_args : argsFit about1.vm theMethod args0 = true := by decide +kernel
set_option maxRecDepth 65536 in
theorem w_heap : heapFits about1 = true := by decide +kernel
set_option maxRecDepth 65536 in
theorem w_runnable : about1.curStatus? = some .runnable := by decide +kernel
set_option maxRecDepth 65536 in
theorem w_alone : about1.alone = true := by decide +kernel
set_option maxRecDepth 65536 in
theorem w_named : about1.methodNamed? x = some theMethod := by decide +kernel
set_option maxRecDepth 65536 in
theorem w_hears : about1.hears theMethod below0 = true := by decide +kernel
set_option maxRecDepth 65536 in
theorem w_ripe : about1.ripe theMethod args0 below0 = true := by decide +kernel
theorem w_running : about1.status = .running := rfl
set_option maxRecDepth 65536 in
theorem w_room : about1.hasRoom e0.platform room_1 = true :=
  launch0.hasRoom_least _ room_1 (by decide +kernel) (by decide +kernel) (by decide +kernel) (by decide +kernel) (by decide +kernel) (by decide +kernel)
theorem allAtoms_all (ts : List Jvm.Cond) (a : Array Jvm.Value) (st : Jvm.State) : (allAtoms ts).before a st = ts.all (fun c => c.before a st) := by
  induction ts with
  | nil => rfl
  | cons c t ih =>
    show (Jvm.Cond.and c (allAtoms t)).before a st = _
    rw [Jvm.Cond.before_and, ih, List.all_cons]
def words1 : List Jvm.Cond := Jvm.Cond.code x code maxLocals ret :: tables_1
/-- a 'code' word, met by the world's own term for the bytes: nothing is compared byte by byte -/
theorem code_word {y : MethodName} {bytes : ByteArray} {mx : Nat} {rt : Option FieldType} {a : Array Value} {s : State} {m : MethodId} {meth : Method} {c : Code} (h1 : s.methodNamed? y = some m) (h2 : s.vm.method? m = some meth) (h3 : meth.code = some c) (h4 : c.code = bytes)
    (h5 : (c.maxLocals == mx && c.exceptionTable.isEmpty && decide (c.maxStack ≤ mostOperands) && decide (meth.sig.returnType = rt) && !meth.locks && decide (parseMethodDescriptor y.desc = some meth.sig)) = true) : (Jvm.Cond.code y bytes mx rt).before a s = true := by
  simp only [Bool.and_eq_true, beq_iff_eq, Bool.not_eq_true', decide_eq_true_eq] at h5
  obtain ⟨⟨⟨⟨⟨g1, g2⟩, g3⟩, g4⟩, g5⟩, g6⟩ := h5
  simp [Cond.before, Cond.holds, Cond.value, h1, h2, h3, h4, g1, g2, g3, g4, g5, g6]
def isCode : Jvm.Cond → Bool
  | .code _ _ _ _ => true
  | _ => false
theorem all_split {L : List Jvm.Cond} {P : Jvm.Cond → Bool} (h1 : L.all (fun c => isCode c || P c) = true) (h2 : ∀ c ∈ L.filter isCode, P c = true) : L.all P = true := by
  refine List.all_eq_true.mpr fun c hc => ?_
  have h := List.all_eq_true.mp h1 c hc
  rcases Bool.eq_false_or_eq_true (isCode c) with hi | hi
  · exact h2 c (List.mem_filter.mpr ⟨hc, hi⟩)
  · simpa [hi] using h
set_option maxRecDepth 65536 in
theorem w_c0 : (Jvm.Cond.code x code maxLocals ret).before args0 about1 = true := code_word (m := ⟨1, 2⟩) (meth := k1m2) (c := k1c2) (by decide +kernel) rfl rfl rfl (by decide +kernel)
set_option maxRecDepth 65536 in
theorem w_c1 : (Jvm.Cond.code ({ cls := "com/example/enact/enact/ByteRangeLengthPinLaw", name := "pos", desc := "(J)J" } : Jvm.MethodName) method_2_code (2 : Nat) (Option.some Jvm.ClassFile.FieldType.long)).before args0 about1 = true := code_word (m := ⟨1, 1⟩) (meth := k1m1) (c := k1c1) (by decide +kernel) rfl rfl rfl (by decide +kernel)
set_option maxRecDepth 65536 in
theorem w_c2 : (Jvm.Cond.code ({ cls := "java/lang/Math", name := "min", desc := "(JJ)J" } : Jvm.MethodName) jdk_29_method_70_code (4 : Nat) (Option.some Jvm.ClassFile.FieldType.long)).before args0 about1 = true := code_word (m := ⟨2, 2⟩) (meth := k2m2) (c := k2c2) (by decide +kernel) rfl rfl rfl (by decide +kernel)
set_option maxRecDepth 65536 in
theorem w_c3 : (Jvm.Cond.code ({ cls := "java/lang/Math", name := "max", desc := "(JJ)J" } : Jvm.MethodName) jdk_29_method_66_code (4 : Nat) (Option.some Jvm.ClassFile.FieldType.long)).before args0 about1 = true := code_word (m := ⟨2, 1⟩) (meth := k2m1) (c := k2c1) (by decide +kernel) rfl rfl rfl (by decide +kernel)
set_option maxRecDepth 65536 in
theorem w_c4 : (Jvm.Cond.code ({ cls := "com/example/enact/enact/ByteRange", name := "<init>", desc := "(JJ)V" } : Jvm.MethodName) prog_3_method_1_code (5 : Nat) (Option.none : Option Jvm.ClassFile.FieldType)).before args0 about1 = true := code_word (m := ⟨4, 0⟩) (meth := k4m0) (c := k4c0) (by decide +kernel) rfl rfl rfl (by decide +kernel)
set_option maxRecDepth 65536 in
theorem w_c5 : (Jvm.Cond.code ({ cls := "java/lang/Record", name := "<init>", desc := "()V" } : Jvm.MethodName) jdk_30_method_1_code (1 : Nat) (Option.none : Option Jvm.ClassFile.FieldType)).before args0 about1 = true := code_word (m := ⟨3, 0⟩) (meth := k3m0) (c := k3c0) (by decide +kernel) rfl rfl rfl (by decide +kernel)
set_option maxRecDepth 65536 in
theorem w_c6 : (Jvm.Cond.code ({ cls := "java/lang/Object", name := "<init>", desc := "()V" } : Jvm.MethodName) object_method_1_code (1 : Nat) (Option.none : Option Jvm.ClassFile.FieldType)).before args0 about1 = true := code_word (m := ⟨0, 0⟩) (meth := k0m0) (c := k0c0) (by decide +kernel) rfl rfl rfl (by decide +kernel)
set_option maxRecDepth 65536 in
theorem w_c7 : (Jvm.Cond.code ({ cls := "com/example/enact/enact/ByteRange", name := "length", desc := "()J" } : Jvm.MethodName) prog_3_method_3_code (1 : Nat) (Option.some Jvm.ClassFile.FieldType.long)).before args0 about1 = true := code_word (m := ⟨4, 1⟩) (meth := k4m1) (c := k4c1) (by decide +kernel) rfl rfl rfl (by decide +kernel)
def codes1 : List Jvm.Cond := [Jvm.Cond.code x code maxLocals ret, Jvm.Cond.code ({ cls := "com/example/enact/enact/ByteRangeLengthPinLaw", name := "pos", desc := "(J)J" } : Jvm.MethodName) method_2_code (2 : Nat) (Option.some Jvm.ClassFile.FieldType.long), Jvm.Cond.code ({ cls := "java/lang/Math", name := "min", desc := "(JJ)J" } : Jvm.MethodName) jdk_29_method_70_code (4 : Nat) (Option.some Jvm.ClassFile.FieldType.long), Jvm.Cond.code ({ cls := "java/lang/Math", name := "max", desc := "(JJ)J" } : Jvm.MethodName) jdk_29_method_66_code (4 : Nat) (Option.some Jvm.ClassFile.FieldType.long), Jvm.Cond.code ({ cls := "com/example/enact/enact/ByteRange", name := "<init>", desc := "(JJ)V" } : Jvm.MethodName) prog_3_method_1_code (5 : Nat) (Option.none : Option Jvm.ClassFile.FieldType), Jvm.Cond.code ({ cls := "java/lang/Record", name := "<init>", desc := "()V" } : Jvm.MethodName) jdk_30_method_1_code (1 : Nat) (Option.none : Option Jvm.ClassFile.FieldType), Jvm.Cond.code ({ cls := "java/lang/Object", name := "<init>", desc := "()V" } : Jvm.MethodName) object_method_1_code (1 : Nat) (Option.none : Option Jvm.ClassFile.FieldType), Jvm.Cond.code ({ cls := "com/example/enact/enact/ByteRange", name := "length", desc := "()J" } : Jvm.MethodName) prog_3_method_3_code (1 : Nat) (Option.some Jvm.ClassFile.FieldType.long)]
set_option maxRecDepth 65536 in
theorem codes_eq : words1.filter isCode = codes1 := rfl
theorem w_codes : ∀ c ∈ words1.filter isCode, c.before args0 about1 = true := by
  rw [codes_eq]
  intro c hc
  simp only [codes1, List.mem_cons, List.not_mem_nil, or_false] at hc
  rcases hc with rfl | rfl | rfl | rfl | rfl | rfl | rfl | rfl
  · exact w_c0
  · exact w_c1
  · exact w_c2
  · exact w_c3
  · exact w_c4
  · exact w_c5
  · exact w_c6
  · exact w_c7
set_option maxRecDepth 65536 in
theorem w_t1 : (words1.take 24).all (fun c => isCode c || c.before args0 about1) = true := by decide +kernel
set_option maxRecDepth 65536 in
theorem w_t2 : (words1.drop 24).all (fun c => isCode c || c.before args0 about1) = true := by decide +kernel
theorem w_tables : (allAtoms (Jvm.Cond.code x code maxLocals ret :: tables_1)).before args0 about1 = true := by
  rw [allAtoms_all]
  show words1.all (fun c => c.before args0 about1) = true
  refine all_split ?_ w_codes
  rw [← List.take_append_drop 24 words1, List.all_append, w_t1, w_t2]
  rfl
set_option maxRecDepth 65536 in
theorem w_case : (Jvm.Cond.and given_1 narrow_1).before args0 about1 = true := by decide +kernel
theorem w_applies : (headSpec (Jvm.Cond.code x code maxLocals ret :: tables_1) room_1).applies x e0.platform about1 = true :=
  (Spec.applies_iff w_frames).mpr ⟨w_running, w_runnable, w_alone, w_named, w_hears, w_ripe, w_room, w_tables⟩
theorem atStart : AtStart classFile x code maxLocals ret World_1 tables_1 room_1 Calls_1 rest_1 Pre_1 launch0 p0 e0 about1 theMethod args0 below0 :=
  ⟨lists_1, trivial, launch0.admits_env _ _ _, launch0.least_env, fairChoices_fair.cas, fairChoices_fair.clock, w_frames, w_args, w_heap, w_applies, trivial, trivial, w_case⟩
end start1
theorem witness_1 : WitnessClaimed_1 := ⟨start1.p0, start1.e0, start1.about1, start1.theMethod, start1.args0, start1.below0, start1.atStart⟩
end Jvm.Pilot.@@N@@
