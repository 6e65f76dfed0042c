import JvmDerived
import JvmDerived.Pilot.@@N@@Statement
import JvmDerived.Pilot.@@N@@Code
set_option linter.unusedVariables false
set_option linter.unusedSimpArgs false
@@BLOCK:NumsL.lean.txt@@
namespace Jvm.RoadKit
open Sem ClassFile Op Lib Jvm.Stand Jvm.Free Jvm.LawKit
section New
variable {p : Program} {l : Launch} {e : Env} {R : Room} {s : State} {m : MethodId} {args : Array Value} {below : List Frame} {meth : Method} {c : Code} {T : State} {locs : List Loc} {cells slots : Nat}
theorem retI (X : Stand p l e R s m args below meth c T locs cells slots) (hx : p.tables.exec = Jvm.exec) {pc : Nat} {Ls : Array Slot} {z : Int32} {rest : List Value} (hret : meth.sig.returnType = some .int) (hd : decode c.code pc = .ok (.ireturn, 1)) {fs : List Frame}
    (hl : ∀ (f : JFrame) (acts : List Action), f.method = m → f.locked = none → f.entered = [] → (doReturn e (T.setTop f) acts (some (.int z))).1 = T.setFrames fs) : Steps p.tables e below (T.setTop (mkF m pc Ls (.int z :: rest))) (T.setFrames fs) := by
  have hm' : T.vm.method? m = some meth := X.method'
  have hn : narrow .int (.int z) = .int z := rfl
  show Steps p.tables e below (T.setTop { method := m, pc := pc, locals := Ls, stack := _ :: rest, locked := none }) _
  jvm_step X.here [X.here.top, hx, hd, hm', hret, hn]
  first | (intro acts; rw [hl _ acts rfl rfl rfl]) | rw [hl _ _ rfl rfl rfl]
  exact Steps.refl _
end New
end Jvm.RoadKit
namespace Jvm.Pilot.@@N@@
open Jvm Jvm.ClassFile Sem Op Lib Jvm.Free Jvm.Stand Jvm.LawKit Jvm.RoadKit Bundle Jvm.Pilot.@@N@@.Jvm.D
def own_n14 (c : Int32) : Int32 := if c < (65536 : Int32) then 0 else if (983039 : Int32) < c then 0 else 1
theorem own_n14_l {c : Int32} (h : c < (65536 : Int32)) : own_n14 c = 0 := by unfold own_n14; rw [if_pos h]
theorem own_n14_g {c : Int32} (h : ¬ c < (65536 : Int32)) (g : (983039 : Int32) < c) : own_n14 c = 0 := by unfold own_n14; rw [if_neg h, if_pos g]
theorem own_n14_y {c : Int32} (h : ¬ c < (65536 : Int32)) (g : ¬ (983039 : Int32) < c) : own_n14 c = 1 := by unfold own_n14; rw [if_neg h, if_neg g]
def own_n13 (c : Int32) : Int32 := if c < (65008 : Int32) then own_n14 c else if (65533 : Int32) < c then own_n14 c else 1
theorem own_n13_l {c : Int32} (h : c < (65008 : Int32)) : own_n13 c = own_n14 c := by unfold own_n13; rw [if_pos h]
theorem own_n13_g {c : Int32} (h : ¬ c < (65008 : Int32)) (g : (65533 : Int32) < c) : own_n13 c = own_n14 c := by unfold own_n13; rw [if_neg h, if_pos g]
theorem own_n13_y {c : Int32} (h : ¬ c < (65008 : Int32)) (g : ¬ (65533 : Int32) < c) : own_n13 c = 1 := by unfold own_n13; rw [if_neg h, if_neg g]
def own_n12 (c : Int32) : Int32 := if c < (63744 : Int32) then own_n13 c else if (64975 : Int32) < c then own_n13 c else 1
theorem own_n12_l {c : Int32} (h : c < (63744 : Int32)) : own_n12 c = own_n13 c := by unfold own_n12; rw [if_pos h]
theorem own_n12_g {c : Int32} (h : ¬ c < (63744 : Int32)) (g : (64975 : Int32) < c) : own_n12 c = own_n13 c := by unfold own_n12; rw [if_neg h, if_pos g]
theorem own_n12_y {c : Int32} (h : ¬ c < (63744 : Int32)) (g : ¬ (64975 : Int32) < c) : own_n12 c = 1 := by unfold own_n12; rw [if_neg h, if_neg g]
def own_n11 (c : Int32) : Int32 := if c < (12289 : Int32) then own_n12 c else if (55295 : Int32) < c then own_n12 c else 1
theorem own_n11_l {c : Int32} (h : c < (12289 : Int32)) : own_n11 c = own_n12 c := by unfold own_n11; rw [if_pos h]
theorem own_n11_g {c : Int32} (h : ¬ c < (12289 : Int32)) (g : (55295 : Int32) < c) : own_n11 c = own_n12 c := by unfold own_n11; rw [if_neg h, if_pos g]
theorem own_n11_y {c : Int32} (h : ¬ c < (12289 : Int32)) (g : ¬ (55295 : Int32) < c) : own_n11 c = 1 := by unfold own_n11; rw [if_neg h, if_neg g]
def own_n10 (c : Int32) : Int32 := if c < (11264 : Int32) then own_n11 c else if (12271 : Int32) < c then own_n11 c else 1
theorem own_n10_l {c : Int32} (h : c < (11264 : Int32)) : own_n10 c = own_n11 c := by unfold own_n10; rw [if_pos h]
theorem own_n10_g {c : Int32} (h : ¬ c < (11264 : Int32)) (g : (12271 : Int32) < c) : own_n10 c = own_n11 c := by unfold own_n10; rw [if_neg h, if_pos g]
theorem own_n10_y {c : Int32} (h : ¬ c < (11264 : Int32)) (g : ¬ (12271 : Int32) < c) : own_n10 c = 1 := by unfold own_n10; rw [if_neg h, if_neg g]
def own_n9 (c : Int32) : Int32 := if c < (8304 : Int32) then own_n10 c else if (8591 : Int32) < c then own_n10 c else 1
theorem own_n9_l {c : Int32} (h : c < (8304 : Int32)) : own_n9 c = own_n10 c := by unfold own_n9; rw [if_pos h]
theorem own_n9_g {c : Int32} (h : ¬ c < (8304 : Int32)) (g : (8591 : Int32) < c) : own_n9 c = own_n10 c := by unfold own_n9; rw [if_neg h, if_pos g]
theorem own_n9_y {c : Int32} (h : ¬ c < (8304 : Int32)) (g : ¬ (8591 : Int32) < c) : own_n9 c = 1 := by unfold own_n9; rw [if_neg h, if_neg g]
def own_n8 (c : Int32) : Int32 := if c < (8204 : Int32) then own_n9 c else if (8205 : Int32) < c then own_n9 c else 1
theorem own_n8_l {c : Int32} (h : c < (8204 : Int32)) : own_n8 c = own_n9 c := by unfold own_n8; rw [if_pos h]
theorem own_n8_g {c : Int32} (h : ¬ c < (8204 : Int32)) (g : (8205 : Int32) < c) : own_n8 c = own_n9 c := by unfold own_n8; rw [if_neg h, if_pos g]
theorem own_n8_y {c : Int32} (h : ¬ c < (8204 : Int32)) (g : ¬ (8205 : Int32) < c) : own_n8 c = 1 := by unfold own_n8; rw [if_neg h, if_neg g]
def own_n7 (c : Int32) : Int32 := if c < (895 : Int32) then own_n8 c else if (8191 : Int32) < c then own_n8 c else 1
theorem own_n7_l {c : Int32} (h : c < (895 : Int32)) : own_n7 c = own_n8 c := by unfold own_n7; rw [if_pos h]
theorem own_n7_g {c : Int32} (h : ¬ c < (895 : Int32)) (g : (8191 : Int32) < c) : own_n7 c = own_n8 c := by unfold own_n7; rw [if_neg h, if_pos g]
theorem own_n7_y {c : Int32} (h : ¬ c < (895 : Int32)) (g : ¬ (8191 : Int32) < c) : own_n7 c = 1 := by unfold own_n7; rw [if_neg h, if_neg g]
def own_n6 (c : Int32) : Int32 := if c < (880 : Int32) then own_n7 c else if (893 : Int32) < c then own_n7 c else 1
theorem own_n6_l {c : Int32} (h : c < (880 : Int32)) : own_n6 c = own_n7 c := by unfold own_n6; rw [if_pos h]
theorem own_n6_g {c : Int32} (h : ¬ c < (880 : Int32)) (g : (893 : Int32) < c) : own_n6 c = own_n7 c := by unfold own_n6; rw [if_neg h, if_pos g]
theorem own_n6_y {c : Int32} (h : ¬ c < (880 : Int32)) (g : ¬ (893 : Int32) < c) : own_n6 c = 1 := by unfold own_n6; rw [if_neg h, if_neg g]
def own_n5 (c : Int32) : Int32 := if c < (248 : Int32) then own_n6 c else if (767 : Int32) < c then own_n6 c else 1
theorem own_n5_l {c : Int32} (h : c < (248 : Int32)) : own_n5 c = own_n6 c := by unfold own_n5; rw [if_pos h]
theorem own_n5_g {c : Int32} (h : ¬ c < (248 : Int32)) (g : (767 : Int32) < c) : own_n5 c = own_n6 c := by unfold own_n5; rw [if_neg h, if_pos g]
theorem own_n5_y {c : Int32} (h : ¬ c < (248 : Int32)) (g : ¬ (767 : Int32) < c) : own_n5 c = 1 := by unfold own_n5; rw [if_neg h, if_neg g]
def own_n4 (c : Int32) : Int32 := if c < (216 : Int32) then own_n5 c else if (246 : Int32) < c then own_n5 c else 1
theorem own_n4_l {c : Int32} (h : c < (216 : Int32)) : own_n4 c = own_n5 c := by unfold own_n4; rw [if_pos h]
theorem own_n4_g {c : Int32} (h : ¬ c < (216 : Int32)) (g : (246 : Int32) < c) : own_n4 c = own_n5 c := by unfold own_n4; rw [if_neg h, if_pos g]
theorem own_n4_y {c : Int32} (h : ¬ c < (216 : Int32)) (g : ¬ (246 : Int32) < c) : own_n4 c = 1 := by unfold own_n4; rw [if_neg h, if_neg g]
def own_n3 (c : Int32) : Int32 := if c < (192 : Int32) then own_n4 c else if (214 : Int32) < c then own_n4 c else 1
theorem own_n3_l {c : Int32} (h : c < (192 : Int32)) : own_n3 c = own_n4 c := by unfold own_n3; rw [if_pos h]
theorem own_n3_g {c : Int32} (h : ¬ c < (192 : Int32)) (g : (214 : Int32) < c) : own_n3 c = own_n4 c := by unfold own_n3; rw [if_neg h, if_pos g]
theorem own_n3_y {c : Int32} (h : ¬ c < (192 : Int32)) (g : ¬ (214 : Int32) < c) : own_n3 c = 1 := by unfold own_n3; rw [if_neg h, if_neg g]
def own_n2 (c : Int32) : Int32 := if c = (95 : Int32) then 1 else own_n3 c
theorem own_n2_y {c : Int32} (h : c = (95 : Int32)) : own_n2 c = 1 := by unfold own_n2; rw [if_pos h]
theorem own_n2_n {c : Int32} (h : ¬ c = (95 : Int32)) : own_n2 c = own_n3 c := by unfold own_n2; rw [if_neg h]
def own_n1 (c : Int32) : Int32 := if c < (65 : Int32) then own_n2 c else if (90 : Int32) < c then own_n2 c else 1
theorem own_n1_l {c : Int32} (h : c < (65 : Int32)) : own_n1 c = own_n2 c := by unfold own_n1; rw [if_pos h]
theorem own_n1_g {c : Int32} (h : ¬ c < (65 : Int32)) (g : (90 : Int32) < c) : own_n1 c = own_n2 c := by unfold own_n1; rw [if_neg h, if_pos g]
theorem own_n1_y {c : Int32} (h : ¬ c < (65 : Int32)) (g : ¬ (90 : Int32) < c) : own_n1 c = 1 := by unfold own_n1; rw [if_neg h, if_neg g]
def own_n0 (c : Int32) : Int32 := if c < (97 : Int32) then own_n1 c else if (122 : Int32) < c then own_n1 c else 1
theorem own_n0_l {c : Int32} (h : c < (97 : Int32)) : own_n0 c = own_n1 c := by unfold own_n0; rw [if_pos h]
theorem own_n0_g {c : Int32} (h : ¬ c < (97 : Int32)) (g : (122 : Int32) < c) : own_n0 c = own_n1 c := by unfold own_n0; rw [if_neg h, if_pos g]
theorem own_n0_y {c : Int32} (h : ¬ c < (97 : Int32)) (g : ¬ (122 : Int32) < c) : own_n0 c = 1 := by unfold own_n0; rw [if_neg h, if_neg g]
def own_ge (c b : Int32) : Int32 := if c < b then 0 else 1
theorem own_ge0 {c b : Int32} (h : c < b) : own_ge c b = 0 := by unfold own_ge; rw [if_pos h]
theorem own_ge1 {c b : Int32} (h : ¬ c < b) : own_ge c b = 1 := by unfold own_ge; rw [if_neg h]
def own_sum (c : Int32) : Int32 := own_ge c (65 : Int32) + own_ge c (91 : Int32) + own_ge c (95 : Int32) + own_ge c (96 : Int32) + own_ge c (97 : Int32) + own_ge c (123 : Int32) + own_ge c (192 : Int32) + own_ge c (215 : Int32) + own_ge c (216 : Int32) + own_ge c (247 : Int32) + own_ge c (248 : Int32) + own_ge c (768 : Int32) + own_ge c (880 : Int32) + own_ge c (894 : Int32) + own_ge c (895 : Int32) + own_ge c (8192 : Int32) + own_ge c (8204 : Int32) + own_ge c (8206 : Int32) + own_ge c (8304 : Int32) + own_ge c (8592 : Int32) + own_ge c (11264 : Int32) + own_ge c (12272 : Int32) + own_ge c (12289 : Int32) + own_ge c (55296 : Int32) + own_ge c (63744 : Int32) + own_ge c (64976 : Int32) + own_ge c (65008 : Int32) + own_ge c (65534 : Int32) + own_ge c (65536 : Int32) + own_ge c (983040 : Int32)
def own_in (c : Int32) : Int32 := if (own_sum c &&& (1 : Int32)) = (1 : Int32) then 1 else 0
theorem own_in1 {c : Int32} (h : (own_sum c &&& (1 : Int32)) = (1 : Int32)) : own_in c = 1 := by unfold own_in; rw [if_pos h]
theorem own_in0 {c : Int32} (h : ¬ (own_sum c &&& (1 : Int32)) = (1 : Int32)) : own_in c = 0 := by unfold own_in; rw [if_neg h]
theorem own_lt {c y x : Int32} (h : c < y) (g : y ≤ x) : c < x := Int32.lt_of_lt_of_le h g
theorem own_nlt {c y x : Int32} (h : ¬ c < y) (g : x ≤ y) : ¬ c < x := fun q => h (Int32.lt_of_lt_of_le q g)
theorem own_gt {c y x : Int32} (h : ¬ c < y) (g : x < y) : x < c := Int32.lt_of_lt_of_le g (Int32.not_lt.mp h)
theorem own_ngt {c y x : Int32} (h : c < y) (g : y.toInt ≤ x.toInt + 1) : ¬ x < c := fun q => by rw [Int32.lt_iff_toInt_lt] at *; omega
theorem own_is95 {c : Int32} (h1 : ¬ c < (95 : Int32)) (h2 : c < (96 : Int32)) : c = (95 : Int32) := by
  rw [Int32.lt_iff_toInt_lt] at *
  apply Int32.toInt_inj.mp
  have e1 : (95 : Int32).toInt = 95 := rfl
  have e2 : (96 : Int32).toInt = 96 := rfl
  omega
theorem own_case0 {c : Int32} (h2 : c < (65 : Int32)) : own_n0 c = own_in c := by
  have g0 : own_ge c (65 : Int32) = 0 := own_ge0 (own_lt h2 (by decide))
  have g1 : own_ge c (91 : Int32) = 0 := own_ge0 (own_lt h2 (by decide))
  have g2 : own_ge c (95 : Int32) = 0 := own_ge0 (own_lt h2 (by decide))
  have g3 : own_ge c (96 : Int32) = 0 := own_ge0 (own_lt h2 (by decide))
  have g4 : own_ge c (97 : Int32) = 0 := own_ge0 (own_lt h2 (by decide))
  have g5 : own_ge c (123 : Int32) = 0 := own_ge0 (own_lt h2 (by decide))
  have g6 : own_ge c (192 : Int32) = 0 := own_ge0 (own_lt h2 (by decide))
  have g7 : own_ge c (215 : Int32) = 0 := own_ge0 (own_lt h2 (by decide))
  have g8 : own_ge c (216 : Int32) = 0 := own_ge0 (own_lt h2 (by decide))
  have g9 : own_ge c (247 : Int32) = 0 := own_ge0 (own_lt h2 (by decide))
  have g10 : own_ge c (248 : Int32) = 0 := own_ge0 (own_lt h2 (by decide))
  have g11 : own_ge c (768 : Int32) = 0 := own_ge0 (own_lt h2 (by decide))
  have g12 : own_ge c (880 : Int32) = 0 := own_ge0 (own_lt h2 (by decide))
  have g13 : own_ge c (894 : Int32) = 0 := own_ge0 (own_lt h2 (by decide))
  have g14 : own_ge c (895 : Int32) = 0 := own_ge0 (own_lt h2 (by decide))
  have g15 : own_ge c (8192 : Int32) = 0 := own_ge0 (own_lt h2 (by decide))
  have g16 : own_ge c (8204 : Int32) = 0 := own_ge0 (own_lt h2 (by decide))
  have g17 : own_ge c (8206 : Int32) = 0 := own_ge0 (own_lt h2 (by decide))
  have g18 : own_ge c (8304 : Int32) = 0 := own_ge0 (own_lt h2 (by decide))
  have g19 : own_ge c (8592 : Int32) = 0 := own_ge0 (own_lt h2 (by decide))
  have g20 : own_ge c (11264 : Int32) = 0 := own_ge0 (own_lt h2 (by decide))
  have g21 : own_ge c (12272 : Int32) = 0 := own_ge0 (own_lt h2 (by decide))
  have g22 : own_ge c (12289 : Int32) = 0 := own_ge0 (own_lt h2 (by decide))
  have g23 : own_ge c (55296 : Int32) = 0 := own_ge0 (own_lt h2 (by decide))
  have g24 : own_ge c (63744 : Int32) = 0 := own_ge0 (own_lt h2 (by decide))
  have g25 : own_ge c (64976 : Int32) = 0 := own_ge0 (own_lt h2 (by decide))
  have g26 : own_ge c (65008 : Int32) = 0 := own_ge0 (own_lt h2 (by decide))
  have g27 : own_ge c (65534 : Int32) = 0 := own_ge0 (own_lt h2 (by decide))
  have g28 : own_ge c (65536 : Int32) = 0 := own_ge0 (own_lt h2 (by decide))
  have g29 : own_ge c (983040 : Int32) = 0 := own_ge0 (own_lt h2 (by decide))
  have s : own_sum c = 0 := by unfold own_sum; rw [g0, g1, g2, g3, g4, g5, g6, g7, g8, g9, g10, g11, g12, g13, g14, g15, g16, g17, g18, g19, g20, g21, g22, g23, g24, g25, g26, g27, g28, g29]; rfl
  rw [own_in0 (by rw [s]; decide)]
  rw [own_n0_l (own_lt h2 (by decide)), own_n1_l (own_lt h2 (by decide)), own_n2_n (fun q => absurd (own_lt h2 (by decide : (65 : Int32) ≤ (95 : Int32))) (by rw [q]; decide)), own_n3_l (own_lt h2 (by decide)), own_n4_l (own_lt h2 (by decide)), own_n5_l (own_lt h2 (by decide)), own_n6_l (own_lt h2 (by decide)), own_n7_l (own_lt h2 (by decide)), own_n8_l (own_lt h2 (by decide)), own_n9_l (own_lt h2 (by decide)), own_n10_l (own_lt h2 (by decide)), own_n11_l (own_lt h2 (by decide)), own_n12_l (own_lt h2 (by decide)), own_n13_l (own_lt h2 (by decide)), own_n14_l (own_lt h2 (by decide))]
theorem own_case1 {c : Int32} (h1 : ¬ c < (65 : Int32)) (h2 : c < (91 : Int32)) : own_n0 c = own_in c := by
  have g0 : own_ge c (65 : Int32) = 1 := own_ge1 (own_nlt h1 (by decide))
  have g1 : own_ge c (91 : Int32) = 0 := own_ge0 (own_lt h2 (by decide))
  have g2 : own_ge c (95 : Int32) = 0 := own_ge0 (own_lt h2 (by decide))
  have g3 : own_ge c (96 : Int32) = 0 := own_ge0 (own_lt h2 (by decide))
  have g4 : own_ge c (97 : Int32) = 0 := own_ge0 (own_lt h2 (by decide))
  have g5 : own_ge c (123 : Int32) = 0 := own_ge0 (own_lt h2 (by decide))
  have g6 : own_ge c (192 : Int32) = 0 := own_ge0 (own_lt h2 (by decide))
  have g7 : own_ge c (215 : Int32) = 0 := own_ge0 (own_lt h2 (by decide))
  have g8 : own_ge c (216 : Int32) = 0 := own_ge0 (own_lt h2 (by decide))
  have g9 : own_ge c (247 : Int32) = 0 := own_ge0 (own_lt h2 (by decide))
  have g10 : own_ge c (248 : Int32) = 0 := own_ge0 (own_lt h2 (by decide))
  have g11 : own_ge c (768 : Int32) = 0 := own_ge0 (own_lt h2 (by decide))
  have g12 : own_ge c (880 : Int32) = 0 := own_ge0 (own_lt h2 (by decide))
  have g13 : own_ge c (894 : Int32) = 0 := own_ge0 (own_lt h2 (by decide))
  have g14 : own_ge c (895 : Int32) = 0 := own_ge0 (own_lt h2 (by decide))
  have g15 : own_ge c (8192 : Int32) = 0 := own_ge0 (own_lt h2 (by decide))
  have g16 : own_ge c (8204 : Int32) = 0 := own_ge0 (own_lt h2 (by decide))
  have g17 : own_ge c (8206 : Int32) = 0 := own_ge0 (own_lt h2 (by decide))
  have g18 : own_ge c (8304 : Int32) = 0 := own_ge0 (own_lt h2 (by decide))
  have g19 : own_ge c (8592 : Int32) = 0 := own_ge0 (own_lt h2 (by decide))
  have g20 : own_ge c (11264 : Int32) = 0 := own_ge0 (own_lt h2 (by decide))
  have g21 : own_ge c (12272 : Int32) = 0 := own_ge0 (own_lt h2 (by decide))
  have g22 : own_ge c (12289 : Int32) = 0 := own_ge0 (own_lt h2 (by decide))
  have g23 : own_ge c (55296 : Int32) = 0 := own_ge0 (own_lt h2 (by decide))
  have g24 : own_ge c (63744 : Int32) = 0 := own_ge0 (own_lt h2 (by decide))
  have g25 : own_ge c (64976 : Int32) = 0 := own_ge0 (own_lt h2 (by decide))
  have g26 : own_ge c (65008 : Int32) = 0 := own_ge0 (own_lt h2 (by decide))
  have g27 : own_ge c (65534 : Int32) = 0 := own_ge0 (own_lt h2 (by decide))
  have g28 : own_ge c (65536 : Int32) = 0 := own_ge0 (own_lt h2 (by decide))
  have g29 : own_ge c (983040 : Int32) = 0 := own_ge0 (own_lt h2 (by decide))
  have s : own_sum c = 1 := by unfold own_sum; rw [g0, g1, g2, g3, g4, g5, g6, g7, g8, g9, g10, g11, g12, g13, g14, g15, g16, g17, g18, g19, g20, g21, g22, g23, g24, g25, g26, g27, g28, g29]; rfl
  rw [own_in1 (by rw [s]; decide)]
  rw [own_n0_l (own_lt h2 (by decide)), own_n1_y (own_nlt h1 (by decide)) (own_ngt h2 (by decide))]
theorem own_case2 {c : Int32} (h1 : ¬ c < (91 : Int32)) (h2 : c < (95 : Int32)) : own_n0 c = own_in c := by
  have g0 : own_ge c (65 : Int32) = 1 := own_ge1 (own_nlt h1 (by decide))
  have g1 : own_ge c (91 : Int32) = 1 := own_ge1 (own_nlt h1 (by decide))
  have g2 : own_ge c (95 : Int32) = 0 := own_ge0 (own_lt h2 (by decide))
  have g3 : own_ge c (96 : Int32) = 0 := own_ge0 (own_lt h2 (by decide))
  have g4 : own_ge c (97 : Int32) = 0 := own_ge0 (own_lt h2 (by decide))
  have g5 : own_ge c (123 : Int32) = 0 := own_ge0 (own_lt h2 (by decide))
  have g6 : own_ge c (192 : Int32) = 0 := own_ge0 (own_lt h2 (by decide))
  have g7 : own_ge c (215 : Int32) = 0 := own_ge0 (own_lt h2 (by decide))
  have g8 : own_ge c (216 : Int32) = 0 := own_ge0 (own_lt h2 (by decide))
  have g9 : own_ge c (247 : Int32) = 0 := own_ge0 (own_lt h2 (by decide))
  have g10 : own_ge c (248 : Int32) = 0 := own_ge0 (own_lt h2 (by decide))
  have g11 : own_ge c (768 : Int32) = 0 := own_ge0 (own_lt h2 (by decide))
  have g12 : own_ge c (880 : Int32) = 0 := own_ge0 (own_lt h2 (by decide))
  have g13 : own_ge c (894 : Int32) = 0 := own_ge0 (own_lt h2 (by decide))
  have g14 : own_ge c (895 : Int32) = 0 := own_ge0 (own_lt h2 (by decide))
  have g15 : own_ge c (8192 : Int32) = 0 := own_ge0 (own_lt h2 (by decide))
  have g16 : own_ge c (8204 : Int32) = 0 := own_ge0 (own_lt h2 (by decide))
  have g17 : own_ge c (8206 : Int32) = 0 := own_ge0 (own_lt h2 (by decide))
  have g18 : own_ge c (8304 : Int32) = 0 := own_ge0 (own_lt h2 (by decide))
  have g19 : own_ge c (8592 : Int32) = 0 := own_ge0 (own_lt h2 (by decide))
  have g20 : own_ge c (11264 : Int32) = 0 := own_ge0 (own_lt h2 (by decide))
  have g21 : own_ge c (12272 : Int32) = 0 := own_ge0 (own_lt h2 (by decide))
  have g22 : own_ge c (12289 : Int32) = 0 := own_ge0 (own_lt h2 (by decide))
  have g23 : own_ge c (55296 : Int32) = 0 := own_ge0 (own_lt h2 (by decide))
  have g24 : own_ge c (63744 : Int32) = 0 := own_ge0 (own_lt h2 (by decide))
  have g25 : own_ge c (64976 : Int32) = 0 := own_ge0 (own_lt h2 (by decide))
  have g26 : own_ge c (65008 : Int32) = 0 := own_ge0 (own_lt h2 (by decide))
  have g27 : own_ge c (65534 : Int32) = 0 := own_ge0 (own_lt h2 (by decide))
  have g28 : own_ge c (65536 : Int32) = 0 := own_ge0 (own_lt h2 (by decide))
  have g29 : own_ge c (983040 : Int32) = 0 := own_ge0 (own_lt h2 (by decide))
  have s : own_sum c = 2 := by unfold own_sum; rw [g0, g1, g2, g3, g4, g5, g6, g7, g8, g9, g10, g11, g12, g13, g14, g15, g16, g17, g18, g19, g20, g21, g22, g23, g24, g25, g26, g27, g28, g29]; rfl
  rw [own_in0 (by rw [s]; decide)]
  rw [own_n0_l (own_lt h2 (by decide)), own_n1_g (own_nlt h1 (by decide)) (own_gt h1 (by decide)), own_n2_n (fun q => absurd (own_lt h2 (by decide : (95 : Int32) ≤ (95 : Int32))) (by rw [q]; decide)), own_n3_l (own_lt h2 (by decide)), own_n4_l (own_lt h2 (by decide)), own_n5_l (own_lt h2 (by decide)), own_n6_l (own_lt h2 (by decide)), own_n7_l (own_lt h2 (by decide)), own_n8_l (own_lt h2 (by decide)), own_n9_l (own_lt h2 (by decide)), own_n10_l (own_lt h2 (by decide)), own_n11_l (own_lt h2 (by decide)), own_n12_l (own_lt h2 (by decide)), own_n13_l (own_lt h2 (by decide)), own_n14_l (own_lt h2 (by decide))]
theorem own_case3 {c : Int32} (h1 : ¬ c < (95 : Int32)) (h2 : c < (96 : Int32)) : own_n0 c = own_in c := by
  have g0 : own_ge c (65 : Int32) = 1 := own_ge1 (own_nlt h1 (by decide))
  have g1 : own_ge c (91 : Int32) = 1 := own_ge1 (own_nlt h1 (by decide))
  have g2 : own_ge c (95 : Int32) = 1 := own_ge1 (own_nlt h1 (by decide))
  have g3 : own_ge c (96 : Int32) = 0 := own_ge0 (own_lt h2 (by decide))
  have g4 : own_ge c (97 : Int32) = 0 := own_ge0 (own_lt h2 (by decide))
  have g5 : own_ge c (123 : Int32) = 0 := own_ge0 (own_lt h2 (by decide))
  have g6 : own_ge c (192 : Int32) = 0 := own_ge0 (own_lt h2 (by decide))
  have g7 : own_ge c (215 : Int32) = 0 := own_ge0 (own_lt h2 (by decide))
  have g8 : own_ge c (216 : Int32) = 0 := own_ge0 (own_lt h2 (by decide))
  have g9 : own_ge c (247 : Int32) = 0 := own_ge0 (own_lt h2 (by decide))
  have g10 : own_ge c (248 : Int32) = 0 := own_ge0 (own_lt h2 (by decide))
  have g11 : own_ge c (768 : Int32) = 0 := own_ge0 (own_lt h2 (by decide))
  have g12 : own_ge c (880 : Int32) = 0 := own_ge0 (own_lt h2 (by decide))
  have g13 : own_ge c (894 : Int32) = 0 := own_ge0 (own_lt h2 (by decide))
  have g14 : own_ge c (895 : Int32) = 0 := own_ge0 (own_lt h2 (by decide))
  have g15 : own_ge c (8192 : Int32) = 0 := own_ge0 (own_lt h2 (by decide))
  have g16 : own_ge c (8204 : Int32) = 0 := own_ge0 (own_lt h2 (by decide))
  have g17 : own_ge c (8206 : Int32) = 0 := own_ge0 (own_lt h2 (by decide))
  have g18 : own_ge c (8304 : Int32) = 0 := own_ge0 (own_lt h2 (by decide))
  have g19 : own_ge c (8592 : Int32) = 0 := own_ge0 (own_lt h2 (by decide))
  have g20 : own_ge c (11264 : Int32) = 0 := own_ge0 (own_lt h2 (by decide))
  have g21 : own_ge c (12272 : Int32) = 0 := own_ge0 (own_lt h2 (by decide))
  have g22 : own_ge c (12289 : Int32) = 0 := own_ge0 (own_lt h2 (by decide))
  have g23 : own_ge c (55296 : Int32) = 0 := own_ge0 (own_lt h2 (by decide))
  have g24 : own_ge c (63744 : Int32) = 0 := own_ge0 (own_lt h2 (by decide))
  have g25 : own_ge c (64976 : Int32) = 0 := own_ge0 (own_lt h2 (by decide))
  have g26 : own_ge c (65008 : Int32) = 0 := own_ge0 (own_lt h2 (by decide))
  have g27 : own_ge c (65534 : Int32) = 0 := own_ge0 (own_lt h2 (by decide))
  have g28 : own_ge c (65536 : Int32) = 0 := own_ge0 (own_lt h2 (by decide))
  have g29 : own_ge c (983040 : Int32) = 0 := own_ge0 (own_lt h2 (by decide))
  have s : own_sum c = 3 := by unfold own_sum; rw [g0, g1, g2, g3, g4, g5, g6, g7, g8, g9, g10, g11, g12, g13, g14, g15, g16, g17, g18, g19, g20, g21, g22, g23, g24, g25, g26, g27, g28, g29]; rfl
  rw [own_in1 (by rw [s]; decide)]
  rw [own_n0_l (own_lt h2 (by decide)), own_n1_g (own_nlt h1 (by decide)) (own_gt h1 (by decide)), own_n2_y (own_is95 h1 h2)]
theorem own_case4 {c : Int32} (h1 : ¬ c < (96 : Int32)) (h2 : c < (97 : Int32)) : own_n0 c = own_in c := by
  have g0 : own_ge c (65 : Int32) = 1 := own_ge1 (own_nlt h1 (by decide))
  have g1 : own_ge c (91 : Int32) = 1 := own_ge1 (own_nlt h1 (by decide))
  have g2 : own_ge c (95 : Int32) = 1 := own_ge1 (own_nlt h1 (by decide))
  have g3 : own_ge c (96 : Int32) = 1 := own_ge1 (own_nlt h1 (by decide))
  have g4 : own_ge c (97 : Int32) = 0 := own_ge0 (own_lt h2 (by decide))
  have g5 : own_ge c (123 : Int32) = 0 := own_ge0 (own_lt h2 (by decide))
  have g6 : own_ge c (192 : Int32) = 0 := own_ge0 (own_lt h2 (by decide))
  have g7 : own_ge c (215 : Int32) = 0 := own_ge0 (own_lt h2 (by decide))
  have g8 : own_ge c (216 : Int32) = 0 := own_ge0 (own_lt h2 (by decide))
  have g9 : own_ge c (247 : Int32) = 0 := own_ge0 (own_lt h2 (by decide))
  have g10 : own_ge c (248 : Int32) = 0 := own_ge0 (own_lt h2 (by decide))
  have g11 : own_ge c (768 : Int32) = 0 := own_ge0 (own_lt h2 (by decide))
  have g12 : own_ge c (880 : Int32) = 0 := own_ge0 (own_lt h2 (by decide))
  have g13 : own_ge c (894 : Int32) = 0 := own_ge0 (own_lt h2 (by decide))
  have g14 : own_ge c (895 : Int32) = 0 := own_ge0 (own_lt h2 (by decide))
  have g15 : own_ge c (8192 : Int32) = 0 := own_ge0 (own_lt h2 (by decide))
  have g16 : own_ge c (8204 : Int32) = 0 := own_ge0 (own_lt h2 (by decide))
  have g17 : own_ge c (8206 : Int32) = 0 := own_ge0 (own_lt h2 (by decide))
  have g18 : own_ge c (8304 : Int32) = 0 := own_ge0 (own_lt h2 (by decide))
  have g19 : own_ge c (8592 : Int32) = 0 := own_ge0 (own_lt h2 (by decide))
  have g20 : own_ge c (11264 : Int32) = 0 := own_ge0 (own_lt h2 (by decide))
  have g21 : own_ge c (12272 : Int32) = 0 := own_ge0 (own_lt h2 (by decide))
  have g22 : own_ge c (12289 : Int32) = 0 := own_ge0 (own_lt h2 (by decide))
  have g23 : own_ge c (55296 : Int32) = 0 := own_ge0 (own_lt h2 (by decide))
  have g24 : own_ge c (63744 : Int32) = 0 := own_ge0 (own_lt h2 (by decide))
  have g25 : own_ge c (64976 : Int32) = 0 := own_ge0 (own_lt h2 (by decide))
  have g26 : own_ge c (65008 : Int32) = 0 := own_ge0 (own_lt h2 (by decide))
  have g27 : own_ge c (65534 : Int32) = 0 := own_ge0 (own_lt h2 (by decide))
  have g28 : own_ge c (65536 : Int32) = 0 := own_ge0 (own_lt h2 (by decide))
  have g29 : own_ge c (983040 : Int32) = 0 := own_ge0 (own_lt h2 (by decide))
  have s : own_sum c = 4 := by unfold own_sum; rw [g0, g1, g2, g3, g4, g5, g6, g7, g8, g9, g10, g11, g12, g13, g14, g15, g16, g17, g18, g19, g20, g21, g22, g23, g24, g25, g26, g27, g28, g29]; rfl
  rw [own_in0 (by rw [s]; decide)]
  rw [own_n0_l (own_lt h2 (by decide)), own_n1_g (own_nlt h1 (by decide)) (own_gt h1 (by decide)), own_n2_n (fun q => absurd (own_nlt h1 (by decide : (96 : Int32) ≤ (96 : Int32))) (by rw [q]; decide)), own_n3_l (own_lt h2 (by decide)), own_n4_l (own_lt h2 (by decide)), own_n5_l (own_lt h2 (by decide)), own_n6_l (own_lt h2 (by decide)), own_n7_l (own_lt h2 (by decide)), own_n8_l (own_lt h2 (by decide)), own_n9_l (own_lt h2 (by decide)), own_n10_l (own_lt h2 (by decide)), own_n11_l (own_lt h2 (by decide)), own_n12_l (own_lt h2 (by decide)), own_n13_l (own_lt h2 (by decide)), own_n14_l (own_lt h2 (by decide))]
theorem own_case5 {c : Int32} (h1 : ¬ c < (97 : Int32)) (h2 : c < (123 : Int32)) : own_n0 c = own_in c := by
  have g0 : own_ge c (65 : Int32) = 1 := own_ge1 (own_nlt h1 (by decide))
  have g1 : own_ge c (91 : Int32) = 1 := own_ge1 (own_nlt h1 (by decide))
  have g2 : own_ge c (95 : Int32) = 1 := own_ge1 (own_nlt h1 (by decide))
  have g3 : own_ge c (96 : Int32) = 1 := own_ge1 (own_nlt h1 (by decide))
  have g4 : own_ge c (97 : Int32) = 1 := own_ge1 (own_nlt h1 (by decide))
  have g5 : own_ge c (123 : Int32) = 0 := own_ge0 (own_lt h2 (by decide))
  have g6 : own_ge c (192 : Int32) = 0 := own_ge0 (own_lt h2 (by decide))
  have g7 : own_ge c (215 : Int32) = 0 := own_ge0 (own_lt h2 (by decide))
  have g8 : own_ge c (216 : Int32) = 0 := own_ge0 (own_lt h2 (by decide))
  have g9 : own_ge c (247 : Int32) = 0 := own_ge0 (own_lt h2 (by decide))
  have g10 : own_ge c (248 : Int32) = 0 := own_ge0 (own_lt h2 (by decide))
  have g11 : own_ge c (768 : Int32) = 0 := own_ge0 (own_lt h2 (by decide))
  have g12 : own_ge c (880 : Int32) = 0 := own_ge0 (own_lt h2 (by decide))
  have g13 : own_ge c (894 : Int32) = 0 := own_ge0 (own_lt h2 (by decide))
  have g14 : own_ge c (895 : Int32) = 0 := own_ge0 (own_lt h2 (by decide))
  have g15 : own_ge c (8192 : Int32) = 0 := own_ge0 (own_lt h2 (by decide))
  have g16 : own_ge c (8204 : Int32) = 0 := own_ge0 (own_lt h2 (by decide))
  have g17 : own_ge c (8206 : Int32) = 0 := own_ge0 (own_lt h2 (by decide))
  have g18 : own_ge c (8304 : Int32) = 0 := own_ge0 (own_lt h2 (by decide))
  have g19 : own_ge c (8592 : Int32) = 0 := own_ge0 (own_lt h2 (by decide))
  have g20 : own_ge c (11264 : Int32) = 0 := own_ge0 (own_lt h2 (by decide))
  have g21 : own_ge c (12272 : Int32) = 0 := own_ge0 (own_lt h2 (by decide))
  have g22 : own_ge c (12289 : Int32) = 0 := own_ge0 (own_lt h2 (by decide))
  have g23 : own_ge c (55296 : Int32) = 0 := own_ge0 (own_lt h2 (by decide))
  have g24 : own_ge c (63744 : Int32) = 0 := own_ge0 (own_lt h2 (by decide))
  have g25 : own_ge c (64976 : Int32) = 0 := own_ge0 (own_lt h2 (by decide))
  have g26 : own_ge c (65008 : Int32) = 0 := own_ge0 (own_lt h2 (by decide))
  have g27 : own_ge c (65534 : Int32) = 0 := own_ge0 (own_lt h2 (by decide))
  have g28 : own_ge c (65536 : Int32) = 0 := own_ge0 (own_lt h2 (by decide))
  have g29 : own_ge c (983040 : Int32) = 0 := own_ge0 (own_lt h2 (by decide))
  have s : own_sum c = 5 := by unfold own_sum; rw [g0, g1, g2, g3, g4, g5, g6, g7, g8, g9, g10, g11, g12, g13, g14, g15, g16, g17, g18, g19, g20, g21, g22, g23, g24, g25, g26, g27, g28, g29]; rfl
  rw [own_in1 (by rw [s]; decide)]
  rw [own_n0_y (own_nlt h1 (by decide)) (own_ngt h2 (by decide))]
theorem own_case6 {c : Int32} (h1 : ¬ c < (123 : Int32)) (h2 : c < (192 : Int32)) : own_n0 c = own_in c := by
  have g0 : own_ge c (65 : Int32) = 1 := own_ge1 (own_nlt h1 (by decide))
  have g1 : own_ge c (91 : Int32) = 1 := own_ge1 (own_nlt h1 (by decide))
  have g2 : own_ge c (95 : Int32) = 1 := own_ge1 (own_nlt h1 (by decide))
  have g3 : own_ge c (96 : Int32) = 1 := own_ge1 (own_nlt h1 (by decide))
  have g4 : own_ge c (97 : Int32) = 1 := own_ge1 (own_nlt h1 (by decide))
  have g5 : own_ge c (123 : Int32) = 1 := own_ge1 (own_nlt h1 (by decide))
  have g6 : own_ge c (192 : Int32) = 0 := own_ge0 (own_lt h2 (by decide))
  have g7 : own_ge c (215 : Int32) = 0 := own_ge0 (own_lt h2 (by decide))
  have g8 : own_ge c (216 : Int32) = 0 := own_ge0 (own_lt h2 (by decide))
  have g9 : own_ge c (247 : Int32) = 0 := own_ge0 (own_lt h2 (by decide))
  have g10 : own_ge c (248 : Int32) = 0 := own_ge0 (own_lt h2 (by decide))
  have g11 : own_ge c (768 : Int32) = 0 := own_ge0 (own_lt h2 (by decide))
  have g12 : own_ge c (880 : Int32) = 0 := own_ge0 (own_lt h2 (by decide))
  have g13 : own_ge c (894 : Int32) = 0 := own_ge0 (own_lt h2 (by decide))
  have g14 : own_ge c (895 : Int32) = 0 := own_ge0 (own_lt h2 (by decide))
  have g15 : own_ge c (8192 : Int32) = 0 := own_ge0 (own_lt h2 (by decide))
  have g16 : own_ge c (8204 : Int32) = 0 := own_ge0 (own_lt h2 (by decide))
  have g17 : own_ge c (8206 : Int32) = 0 := own_ge0 (own_lt h2 (by decide))
  have g18 : own_ge c (8304 : Int32) = 0 := own_ge0 (own_lt h2 (by decide))
  have g19 : own_ge c (8592 : Int32) = 0 := own_ge0 (own_lt h2 (by decide))
  have g20 : own_ge c (11264 : Int32) = 0 := own_ge0 (own_lt h2 (by decide))
  have g21 : own_ge c (12272 : Int32) = 0 := own_ge0 (own_lt h2 (by decide))
  have g22 : own_ge c (12289 : Int32) = 0 := own_ge0 (own_lt h2 (by decide))
  have g23 : own_ge c (55296 : Int32) = 0 := own_ge0 (own_lt h2 (by decide))
  have g24 : own_ge c (63744 : Int32) = 0 := own_ge0 (own_lt h2 (by decide))
  have g25 : own_ge c (64976 : Int32) = 0 := own_ge0 (own_lt h2 (by decide))
  have g26 : own_ge c (65008 : Int32) = 0 := own_ge0 (own_lt h2 (by decide))
  have g27 : own_ge c (65534 : Int32) = 0 := own_ge0 (own_lt h2 (by decide))
  have g28 : own_ge c (65536 : Int32) = 0 := own_ge0 (own_lt h2 (by decide))
  have g29 : own_ge c (983040 : Int32) = 0 := own_ge0 (own_lt h2 (by decide))
  have s : own_sum c = 6 := by unfold own_sum; rw [g0, g1, g2, g3, g4, g5, g6, g7, g8, g9, g10, g11, g12, g13, g14, g15, g16, g17, g18, g19, g20, g21, g22, g23, g24, g25, g26, g27, g28, g29]; rfl
  rw [own_in0 (by rw [s]; decide)]
  rw [own_n0_g (own_nlt h1 (by decide)) (own_gt h1 (by decide)), own_n1_g (own_nlt h1 (by decide)) (own_gt h1 (by decide)), own_n2_n (fun q => absurd (own_nlt h1 (by decide : (96 : Int32) ≤ (123 : Int32))) (by rw [q]; decide)), own_n3_l (own_lt h2 (by decide)), own_n4_l (own_lt h2 (by decide)), own_n5_l (own_lt h2 (by decide)), own_n6_l (own_lt h2 (by decide)), own_n7_l (own_lt h2 (by decide)), own_n8_l (own_lt h2 (by decide)), own_n9_l (own_lt h2 (by decide)), own_n10_l (own_lt h2 (by decide)), own_n11_l (own_lt h2 (by decide)), own_n12_l (own_lt h2 (by decide)), own_n13_l (own_lt h2 (by decide)), own_n14_l (own_lt h2 (by decide))]
theorem own_case7 {c : Int32} (h1 : ¬ c < (192 : Int32)) (h2 : c < (215 : Int32)) : own_n0 c = own_in c := by
  have g0 : own_ge c (65 : Int32) = 1 := own_ge1 (own_nlt h1 (by decide))
  have g1 : own_ge c (91 : Int32) = 1 := own_ge1 (own_nlt h1 (by decide))
  have g2 : own_ge c (95 : Int32) = 1 := own_ge1 (own_nlt h1 (by decide))
  have g3 : own_ge c (96 : Int32) = 1 := own_ge1 (own_nlt h1 (by decide))
  have g4 : own_ge c (97 : Int32) = 1 := own_ge1 (own_nlt h1 (by decide))
  have g5 : own_ge c (123 : Int32) = 1 := own_ge1 (own_nlt h1 (by decide))
  have g6 : own_ge c (192 : Int32) = 1 := own_ge1 (own_nlt h1 (by decide))
  have g7 : own_ge c (215 : Int32) = 0 := own_ge0 (own_lt h2 (by decide))
  have g8 : own_ge c (216 : Int32) = 0 := own_ge0 (own_lt h2 (by decide))
  have g9 : own_ge c (247 : Int32) = 0 := own_ge0 (own_lt h2 (by decide))
  have g10 : own_ge c (248 : Int32) = 0 := own_ge0 (own_lt h2 (by decide))
  have g11 : own_ge c (768 : Int32) = 0 := own_ge0 (own_lt h2 (by decide))
  have g12 : own_ge c (880 : Int32) = 0 := own_ge0 (own_lt h2 (by decide))
  have g13 : own_ge c (894 : Int32) = 0 := own_ge0 (own_lt h2 (by decide))
  have g14 : own_ge c (895 : Int32) = 0 := own_ge0 (own_lt h2 (by decide))
  have g15 : own_ge c (8192 : Int32) = 0 := own_ge0 (own_lt h2 (by decide))
  have g16 : own_ge c (8204 : Int32) = 0 := own_ge0 (own_lt h2 (by decide))
  have g17 : own_ge c (8206 : Int32) = 0 := own_ge0 (own_lt h2 (by decide))
  have g18 : own_ge c (8304 : Int32) = 0 := own_ge0 (own_lt h2 (by decide))
  have g19 : own_ge c (8592 : Int32) = 0 := own_ge0 (own_lt h2 (by decide))
  have g20 : own_ge c (11264 : Int32) = 0 := own_ge0 (own_lt h2 (by decide))
  have g21 : own_ge c (12272 : Int32) = 0 := own_ge0 (own_lt h2 (by decide))
  have g22 : own_ge c (12289 : Int32) = 0 := own_ge0 (own_lt h2 (by decide))
  have g23 : own_ge c (55296 : Int32) = 0 := own_ge0 (own_lt h2 (by decide))
  have g24 : own_ge c (63744 : Int32) = 0 := own_ge0 (own_lt h2 (by decide))
  have g25 : own_ge c (64976 : Int32) = 0 := own_ge0 (own_lt h2 (by decide))
  have g26 : own_ge c (65008 : Int32) = 0 := own_ge0 (own_lt h2 (by decide))
  have g27 : own_ge c (65534 : Int32) = 0 := own_ge0 (own_lt h2 (by decide))
  have g28 : own_ge c (65536 : Int32) = 0 := own_ge0 (own_lt h2 (by decide))
  have g29 : own_ge c (983040 : Int32) = 0 := own_ge0 (own_lt h2 (by decide))
  have s : own_sum c = 7 := by unfold own_sum; rw [g0, g1, g2, g3, g4, g5, g6, g7, g8, g9, g10, g11, g12, g13, g14, g15, g16, g17, g18, g19, g20, g21, g22, g23, g24, g25, g26, g27, g28, g29]; rfl
  rw [own_in1 (by rw [s]; decide)]
  rw [own_n0_g (own_nlt h1 (by decide)) (own_gt h1 (by decide)), own_n1_g (own_nlt h1 (by decide)) (own_gt h1 (by decide)), own_n2_n (fun q => absurd (own_nlt h1 (by decide : (96 : Int32) ≤ (192 : Int32))) (by rw [q]; decide)), own_n3_y (own_nlt h1 (by decide)) (own_ngt h2 (by decide))]
theorem own_case8 {c : Int32} (h1 : ¬ c < (215 : Int32)) (h2 : c < (216 : Int32)) : own_n0 c = own_in c := by
  have g0 : own_ge c (65 : Int32) = 1 := own_ge1 (own_nlt h1 (by decide))
  have g1 : own_ge c (91 : Int32) = 1 := own_ge1 (own_nlt h1 (by decide))
  have g2 : own_ge c (95 : Int32) = 1 := own_ge1 (own_nlt h1 (by decide))
  have g3 : own_ge c (96 : Int32) = 1 := own_ge1 (own_nlt h1 (by decide))
  have g4 : own_ge c (97 : Int32) = 1 := own_ge1 (own_nlt h1 (by decide))
  have g5 : own_ge c (123 : Int32) = 1 := own_ge1 (own_nlt h1 (by decide))
  have g6 : own_ge c (192 : Int32) = 1 := own_ge1 (own_nlt h1 (by decide))
  have g7 : own_ge c (215 : Int32) = 1 := own_ge1 (own_nlt h1 (by decide))
  have g8 : own_ge c (216 : Int32) = 0 := own_ge0 (own_lt h2 (by decide))
  have g9 : own_ge c (247 : Int32) = 0 := own_ge0 (own_lt h2 (by decide))
  have g10 : own_ge c (248 : Int32) = 0 := own_ge0 (own_lt h2 (by decide))
  have g11 : own_ge c (768 : Int32) = 0 := own_ge0 (own_lt h2 (by decide))
  have g12 : own_ge c (880 : Int32) = 0 := own_ge0 (own_lt h2 (by decide))
  have g13 : own_ge c (894 : Int32) = 0 := own_ge0 (own_lt h2 (by decide))
  have g14 : own_ge c (895 : Int32) = 0 := own_ge0 (own_lt h2 (by decide))
  have g15 : own_ge c (8192 : Int32) = 0 := own_ge0 (own_lt h2 (by decide))
  have g16 : own_ge c (8204 : Int32) = 0 := own_ge0 (own_lt h2 (by decide))
  have g17 : own_ge c (8206 : Int32) = 0 := own_ge0 (own_lt h2 (by decide))
  have g18 : own_ge c (8304 : Int32) = 0 := own_ge0 (own_lt h2 (by decide))
  have g19 : own_ge c (8592 : Int32) = 0 := own_ge0 (own_lt h2 (by decide))
  have g20 : own_ge c (11264 : Int32) = 0 := own_ge0 (own_lt h2 (by decide))
  have g21 : own_ge c (12272 : Int32) = 0 := own_ge0 (own_lt h2 (by decide))
  have g22 : own_ge c (12289 : Int32) = 0 := own_ge0 (own_lt h2 (by decide))
  have g23 : own_ge c (55296 : Int32) = 0 := own_ge0 (own_lt h2 (by decide))
  have g24 : own_ge c (63744 : Int32) = 0 := own_ge0 (own_lt h2 (by decide))
  have g25 : own_ge c (64976 : Int32) = 0 := own_ge0 (own_lt h2 (by decide))
  have g26 : own_ge c (65008 : Int32) = 0 := own_ge0 (own_lt h2 (by decide))
  have g27 : own_ge c (65534 : Int32) = 0 := own_ge0 (own_lt h2 (by decide))
  have g28 : own_ge c (65536 : Int32) = 0 := own_ge0 (own_lt h2 (by decide))
  have g29 : own_ge c (983040 : Int32) = 0 := own_ge0 (own_lt h2 (by decide))
  have s : own_sum c = 8 := by unfold own_sum; rw [g0, g1, g2, g3, g4, g5, g6, g7, g8, g9, g10, g11, g12, g13, g14, g15, g16, g17, g18, g19, g20, g21, g22, g23, g24, g25, g26, g27, g28, g29]; rfl
  rw [own_in0 (by rw [s]; decide)]
  rw [own_n0_g (own_nlt h1 (by decide)) (own_gt h1 (by decide)), own_n1_g (own_nlt h1 (by decide)) (own_gt h1 (by decide)), own_n2_n (fun q => absurd (own_nlt h1 (by decide : (96 : Int32) ≤ (215 : Int32))) (by rw [q]; decide)), own_n3_g (own_nlt h1 (by decide)) (own_gt h1 (by decide)), own_n4_l (own_lt h2 (by decide)), own_n5_l (own_lt h2 (by decide)), own_n6_l (own_lt h2 (by decide)), own_n7_l (own_lt h2 (by decide)), own_n8_l (own_lt h2 (by decide)), own_n9_l (own_lt h2 (by decide)), own_n10_l (own_lt h2 (by decide)), own_n11_l (own_lt h2 (by decide)), own_n12_l (own_lt h2 (by decide)), own_n13_l (own_lt h2 (by decide)), own_n14_l (own_lt h2 (by decide))]
theorem own_case9 {c : Int32} (h1 : ¬ c < (216 : Int32)) (h2 : c < (247 : Int32)) : own_n0 c = own_in c := by
  have g0 : own_ge c (65 : Int32) = 1 := own_ge1 (own_nlt h1 (by decide))
  have g1 : own_ge c (91 : Int32) = 1 := own_ge1 (own_nlt h1 (by decide))
  have g2 : own_ge c (95 : Int32) = 1 := own_ge1 (own_nlt h1 (by decide))
  have g3 : own_ge c (96 : Int32) = 1 := own_ge1 (own_nlt h1 (by decide))
  have g4 : own_ge c (97 : Int32) = 1 := own_ge1 (own_nlt h1 (by decide))
  have g5 : own_ge c (123 : Int32) = 1 := own_ge1 (own_nlt h1 (by decide))
  have g6 : own_ge c (192 : Int32) = 1 := own_ge1 (own_nlt h1 (by decide))
  have g7 : own_ge c (215 : Int32) = 1 := own_ge1 (own_nlt h1 (by decide))
  have g8 : own_ge c (216 : Int32) = 1 := own_ge1 (own_nlt h1 (by decide))
  have g9 : own_ge c (247 : Int32) = 0 := own_ge0 (own_lt h2 (by decide))
  have g10 : own_ge c (248 : Int32) = 0 := own_ge0 (own_lt h2 (by decide))
  have g11 : own_ge c (768 : Int32) = 0 := own_ge0 (own_lt h2 (by decide))
  have g12 : own_ge c (880 : Int32) = 0 := own_ge0 (own_lt h2 (by decide))
  have g13 : own_ge c (894 : Int32) = 0 := own_ge0 (own_lt h2 (by decide))
  have g14 : own_ge c (895 : Int32) = 0 := own_ge0 (own_lt h2 (by decide))
  have g15 : own_ge c (8192 : Int32) = 0 := own_ge0 (own_lt h2 (by decide))
  have g16 : own_ge c (8204 : Int32) = 0 := own_ge0 (own_lt h2 (by decide))
  have g17 : own_ge c (8206 : Int32) = 0 := own_ge0 (own_lt h2 (by decide))
  have g18 : own_ge c (8304 : Int32) = 0 := own_ge0 (own_lt h2 (by decide))
  have g19 : own_ge c (8592 : Int32) = 0 := own_ge0 (own_lt h2 (by decide))
  have g20 : own_ge c (11264 : Int32) = 0 := own_ge0 (own_lt h2 (by decide))
  have g21 : own_ge c (12272 : Int32) = 0 := own_ge0 (own_lt h2 (by decide))
  have g22 : own_ge c (12289 : Int32) = 0 := own_ge0 (own_lt h2 (by decide))
  have g23 : own_ge c (55296 : Int32) = 0 := own_ge0 (own_lt h2 (by decide))
  have g24 : own_ge c (63744 : Int32) = 0 := own_ge0 (own_lt h2 (by decide))
  have g25 : own_ge c (64976 : Int32) = 0 := own_ge0 (own_lt h2 (by decide))
  have g26 : own_ge c (65008 : Int32) = 0 := own_ge0 (own_lt h2 (by decide))
  have g27 : own_ge c (65534 : Int32) = 0 := own_ge0 (own_lt h2 (by decide))
  have g28 : own_ge c (65536 : Int32) = 0 := own_ge0 (own_lt h2 (by decide))
  have g29 : own_ge c (983040 : Int32) = 0 := own_ge0 (own_lt h2 (by decide))
  have s : own_sum c = 9 := by unfold own_sum; rw [g0, g1, g2, g3, g4, g5, g6, g7, g8, g9, g10, g11, g12, g13, g14, g15, g16, g17, g18, g19, g20, g21, g22, g23, g24, g25, g26, g27, g28, g29]; rfl
  rw [own_in1 (by rw [s]; decide)]
  rw [own_n0_g (own_nlt h1 (by decide)) (own_gt h1 (by decide)), own_n1_g (own_nlt h1 (by decide)) (own_gt h1 (by decide)), own_n2_n (fun q => absurd (own_nlt h1 (by decide : (96 : Int32) ≤ (216 : Int32))) (by rw [q]; decide)), own_n3_g (own_nlt h1 (by decide)) (own_gt h1 (by decide)), own_n4_y (own_nlt h1 (by decide)) (own_ngt h2 (by decide))]
theorem own_case10 {c : Int32} (h1 : ¬ c < (247 : Int32)) (h2 : c < (248 : Int32)) : own_n0 c = own_in c := by
  have g0 : own_ge c (65 : Int32) = 1 := own_ge1 (own_nlt h1 (by decide))
  have g1 : own_ge c (91 : Int32) = 1 := own_ge1 (own_nlt h1 (by decide))
  have g2 : own_ge c (95 : Int32) = 1 := own_ge1 (own_nlt h1 (by decide))
  have g3 : own_ge c (96 : Int32) = 1 := own_ge1 (own_nlt h1 (by decide))
  have g4 : own_ge c (97 : Int32) = 1 := own_ge1 (own_nlt h1 (by decide))
  have g5 : own_ge c (123 : Int32) = 1 := own_ge1 (own_nlt h1 (by decide))
  have g6 : own_ge c (192 : Int32) = 1 := own_ge1 (own_nlt h1 (by decide))
  have g7 : own_ge c (215 : Int32) = 1 := own_ge1 (own_nlt h1 (by decide))
  have g8 : own_ge c (216 : Int32) = 1 := own_ge1 (own_nlt h1 (by decide))
  have g9 : own_ge c (247 : Int32) = 1 := own_ge1 (own_nlt h1 (by decide))
  have g10 : own_ge c (248 : Int32) = 0 := own_ge0 (own_lt h2 (by decide))
  have g11 : own_ge c (768 : Int32) = 0 := own_ge0 (own_lt h2 (by decide))
  have g12 : own_ge c (880 : Int32) = 0 := own_ge0 (own_lt h2 (by decide))
  have g13 : own_ge c (894 : Int32) = 0 := own_ge0 (own_lt h2 (by decide))
  have g14 : own_ge c (895 : Int32) = 0 := own_ge0 (own_lt h2 (by decide))
  have g15 : own_ge c (8192 : Int32) = 0 := own_ge0 (own_lt h2 (by decide))
  have g16 : own_ge c (8204 : Int32) = 0 := own_ge0 (own_lt h2 (by decide))
  have g17 : own_ge c (8206 : Int32) = 0 := own_ge0 (own_lt h2 (by decide))
  have g18 : own_ge c (8304 : Int32) = 0 := own_ge0 (own_lt h2 (by decide))
  have g19 : own_ge c (8592 : Int32) = 0 := own_ge0 (own_lt h2 (by decide))
  have g20 : own_ge c (11264 : Int32) = 0 := own_ge0 (own_lt h2 (by decide))
  have g21 : own_ge c (12272 : Int32) = 0 := own_ge0 (own_lt h2 (by decide))
  have g22 : own_ge c (12289 : Int32) = 0 := own_ge0 (own_lt h2 (by decide))
  have g23 : own_ge c (55296 : Int32) = 0 := own_ge0 (own_lt h2 (by decide))
  have g24 : own_ge c (63744 : Int32) = 0 := own_ge0 (own_lt h2 (by decide))
  have g25 : own_ge c (64976 : Int32) = 0 := own_ge0 (own_lt h2 (by decide))
  have g26 : own_ge c (65008 : Int32) = 0 := own_ge0 (own_lt h2 (by decide))
  have g27 : own_ge c (65534 : Int32) = 0 := own_ge0 (own_lt h2 (by decide))
  have g28 : own_ge c (65536 : Int32) = 0 := own_ge0 (own_lt h2 (by decide))
  have g29 : own_ge c (983040 : Int32) = 0 := own_ge0 (own_lt h2 (by decide))
  have s : own_sum c = 10 := by unfold own_sum; rw [g0, g1, g2, g3, g4, g5, g6, g7, g8, g9, g10, g11, g12, g13, g14, g15, g16, g17, g18, g19, g20, g21, g22, g23, g24, g25, g26, g27, g28, g29]; rfl
  rw [own_in0 (by rw [s]; decide)]
  rw [own_n0_g (own_nlt h1 (by decide)) (own_gt h1 (by decide)), own_n1_g (own_nlt h1 (by decide)) (own_gt h1 (by decide)), own_n2_n (fun q => absurd (own_nlt h1 (by decide : (96 : Int32) ≤ (247 : Int32))) (by rw [q]; decide)), own_n3_g (own_nlt h1 (by decide)) (own_gt h1 (by decide)), own_n4_g (own_nlt h1 (by decide)) (own_gt h1 (by decide)), own_n5_l (own_lt h2 (by decide)), own_n6_l (own_lt h2 (by decide)), own_n7_l (own_lt h2 (by decide)), own_n8_l (own_lt h2 (by decide)), own_n9_l (own_lt h2 (by decide)), own_n10_l (own_lt h2 (by decide)), own_n11_l (own_lt h2 (by decide)), own_n12_l (own_lt h2 (by decide)), own_n13_l (own_lt h2 (by decide)), own_n14_l (own_lt h2 (by decide))]
theorem own_case11 {c : Int32} (h1 : ¬ c < (248 : Int32)) (h2 : c < (768 : Int32)) : own_n0 c = own_in c := by
  have g0 : own_ge c (65 : Int32) = 1 := own_ge1 (own_nlt h1 (by decide))
  have g1 : own_ge c (91 : Int32) = 1 := own_ge1 (own_nlt h1 (by decide))
  have g2 : own_ge c (95 : Int32) = 1 := own_ge1 (own_nlt h1 (by decide))
  have g3 : own_ge c (96 : Int32) = 1 := own_ge1 (own_nlt h1 (by decide))
  have g4 : own_ge c (97 : Int32) = 1 := own_ge1 (own_nlt h1 (by decide))
  have g5 : own_ge c (123 : Int32) = 1 := own_ge1 (own_nlt h1 (by decide))
  have g6 : own_ge c (192 : Int32) = 1 := own_ge1 (own_nlt h1 (by decide))
  have g7 : own_ge c (215 : Int32) = 1 := own_ge1 (own_nlt h1 (by decide))
  have g8 : own_ge c (216 : Int32) = 1 := own_ge1 (own_nlt h1 (by decide))
  have g9 : own_ge c (247 : Int32) = 1 := own_ge1 (own_nlt h1 (by decide))
  have g10 : own_ge c (248 : Int32) = 1 := own_ge1 (own_nlt h1 (by decide))
  have g11 : own_ge c (768 : Int32) = 0 := own_ge0 (own_lt h2 (by decide))
  have g12 : own_ge c (880 : Int32) = 0 := own_ge0 (own_lt h2 (by decide))
  have g13 : own_ge c (894 : Int32) = 0 := own_ge0 (own_lt h2 (by decide))
  have g14 : own_ge c (895 : Int32) = 0 := own_ge0 (own_lt h2 (by decide))
  have g15 : own_ge c (8192 : Int32) = 0 := own_ge0 (own_lt h2 (by decide))
  have g16 : own_ge c (8204 : Int32) = 0 := own_ge0 (own_lt h2 (by decide))
  have g17 : own_ge c (8206 : Int32) = 0 := own_ge0 (own_lt h2 (by decide))
  have g18 : own_ge c (8304 : Int32) = 0 := own_ge0 (own_lt h2 (by decide))
  have g19 : own_ge c (8592 : Int32) = 0 := own_ge0 (own_lt h2 (by decide))
  have g20 : own_ge c (11264 : Int32) = 0 := own_ge0 (own_lt h2 (by decide))
  have g21 : own_ge c (12272 : Int32) = 0 := own_ge0 (own_lt h2 (by decide))
  have g22 : own_ge c (12289 : Int32) = 0 := own_ge0 (own_lt h2 (by decide))
  have g23 : own_ge c (55296 : Int32) = 0 := own_ge0 (own_lt h2 (by decide))
  have g24 : own_ge c (63744 : Int32) = 0 := own_ge0 (own_lt h2 (by decide))
  have g25 : own_ge c (64976 : Int32) = 0 := own_ge0 (own_lt h2 (by decide))
  have g26 : own_ge c (65008 : Int32) = 0 := own_ge0 (own_lt h2 (by decide))
  have g27 : own_ge c (65534 : Int32) = 0 := own_ge0 (own_lt h2 (by decide))
  have g28 : own_ge c (65536 : Int32) = 0 := own_ge0 (own_lt h2 (by decide))
  have g29 : own_ge c (983040 : Int32) = 0 := own_ge0 (own_lt h2 (by decide))
  have s : own_sum c = 11 := by unfold own_sum; rw [g0, g1, g2, g3, g4, g5, g6, g7, g8, g9, g10, g11, g12, g13, g14, g15, g16, g17, g18, g19, g20, g21, g22, g23, g24, g25, g26, g27, g28, g29]; rfl
  rw [own_in1 (by rw [s]; decide)]
  rw [own_n0_g (own_nlt h1 (by decide)) (own_gt h1 (by decide)), own_n1_g (own_nlt h1 (by decide)) (own_gt h1 (by decide)), own_n2_n (fun q => absurd (own_nlt h1 (by decide : (96 : Int32) ≤ (248 : Int32))) (by rw [q]; decide)), own_n3_g (own_nlt h1 (by decide)) (own_gt h1 (by decide)), own_n4_g (own_nlt h1 (by decide)) (own_gt h1 (by decide)), own_n5_y (own_nlt h1 (by decide)) (own_ngt h2 (by decide))]
theorem own_case12 {c : Int32} (h1 : ¬ c < (768 : Int32)) (h2 : c < (880 : Int32)) : own_n0 c = own_in c := by
  have g0 : own_ge c (65 : Int32) = 1 := own_ge1 (own_nlt h1 (by decide))
  have g1 : own_ge c (91 : Int32) = 1 := own_ge1 (own_nlt h1 (by decide))
  have g2 : own_ge c (95 : Int32) = 1 := own_ge1 (own_nlt h1 (by decide))
  have g3 : own_ge c (96 : Int32) = 1 := own_ge1 (own_nlt h1 (by decide))
  have g4 : own_ge c (97 : Int32) = 1 := own_ge1 (own_nlt h1 (by decide))
  have g5 : own_ge c (123 : Int32) = 1 := own_ge1 (own_nlt h1 (by decide))
  have g6 : own_ge c (192 : Int32) = 1 := own_ge1 (own_nlt h1 (by decide))
  have g7 : own_ge c (215 : Int32) = 1 := own_ge1 (own_nlt h1 (by decide))
  have g8 : own_ge c (216 : Int32) = 1 := own_ge1 (own_nlt h1 (by decide))
  have g9 : own_ge c (247 : Int32) = 1 := own_ge1 (own_nlt h1 (by decide))
  have g10 : own_ge c (248 : Int32) = 1 := own_ge1 (own_nlt h1 (by decide))
  have g11 : own_ge c (768 : Int32) = 1 := own_ge1 (own_nlt h1 (by decide))
  have g12 : own_ge c (880 : Int32) = 0 := own_ge0 (own_lt h2 (by decide))
  have g13 : own_ge c (894 : Int32) = 0 := own_ge0 (own_lt h2 (by decide))
  have g14 : own_ge c (895 : Int32) = 0 := own_ge0 (own_lt h2 (by decide))
  have g15 : own_ge c (8192 : Int32) = 0 := own_ge0 (own_lt h2 (by decide))
  have g16 : own_ge c (8204 : Int32) = 0 := own_ge0 (own_lt h2 (by decide))
  have g17 : own_ge c (8206 : Int32) = 0 := own_ge0 (own_lt h2 (by decide))
  have g18 : own_ge c (8304 : Int32) = 0 := own_ge0 (own_lt h2 (by decide))
  have g19 : own_ge c (8592 : Int32) = 0 := own_ge0 (own_lt h2 (by decide))
  have g20 : own_ge c (11264 : Int32) = 0 := own_ge0 (own_lt h2 (by decide))
  have g21 : own_ge c (12272 : Int32) = 0 := own_ge0 (own_lt h2 (by decide))
  have g22 : own_ge c (12289 : Int32) = 0 := own_ge0 (own_lt h2 (by decide))
  have g23 : own_ge c (55296 : Int32) = 0 := own_ge0 (own_lt h2 (by decide))
  have g24 : own_ge c (63744 : Int32) = 0 := own_ge0 (own_lt h2 (by decide))
  have g25 : own_ge c (64976 : Int32) = 0 := own_ge0 (own_lt h2 (by decide))
  have g26 : own_ge c (65008 : Int32) = 0 := own_ge0 (own_lt h2 (by decide))
  have g27 : own_ge c (65534 : Int32) = 0 := own_ge0 (own_lt h2 (by decide))
  have g28 : own_ge c (65536 : Int32) = 0 := own_ge0 (own_lt h2 (by decide))
  have g29 : own_ge c (983040 : Int32) = 0 := own_ge0 (own_lt h2 (by decide))
  have s : own_sum c = 12 := by unfold own_sum; rw [g0, g1, g2, g3, g4, g5, g6, g7, g8, g9, g10, g11, g12, g13, g14, g15, g16, g17, g18, g19, g20, g21, g22, g23, g24, g25, g26, g27, g28, g29]; rfl
  rw [own_in0 (by rw [s]; decide)]
  rw [own_n0_g (own_nlt h1 (by decide)) (own_gt h1 (by decide)), own_n1_g (own_nlt h1 (by decide)) (own_gt h1 (by decide)), own_n2_n (fun q => absurd (own_nlt h1 (by decide : (96 : Int32) ≤ (768 : Int32))) (by rw [q]; decide)), own_n3_g (own_nlt h1 (by decide)) (own_gt h1 (by decide)), own_n4_g (own_nlt h1 (by decide)) (own_gt h1 (by decide)), own_n5_g (own_nlt h1 (by decide)) (own_gt h1 (by decide)), own_n6_l (own_lt h2 (by decide)), own_n7_l (own_lt h2 (by decide)), own_n8_l (own_lt h2 (by decide)), own_n9_l (own_lt h2 (by decide)), own_n10_l (own_lt h2 (by decide)), own_n11_l (own_lt h2 (by decide)), own_n12_l (own_lt h2 (by decide)), own_n13_l (own_lt h2 (by decide)), own_n14_l (own_lt h2 (by decide))]
theorem own_case13 {c : Int32} (h1 : ¬ c < (880 : Int32)) (h2 : c < (894 : Int32)) : own_n0 c = own_in c := by
  have g0 : own_ge c (65 : Int32) = 1 := own_ge1 (own_nlt h1 (by decide))
  have g1 : own_ge c (91 : Int32) = 1 := own_ge1 (own_nlt h1 (by decide))
  have g2 : own_ge c (95 : Int32) = 1 := own_ge1 (own_nlt h1 (by decide))
  have g3 : own_ge c (96 : Int32) = 1 := own_ge1 (own_nlt h1 (by decide))
  have g4 : own_ge c (97 : Int32) = 1 := own_ge1 (own_nlt h1 (by decide))
  have g5 : own_ge c (123 : Int32) = 1 := own_ge1 (own_nlt h1 (by decide))
  have g6 : own_ge c (192 : Int32) = 1 := own_ge1 (own_nlt h1 (by decide))
  have g7 : own_ge c (215 : Int32) = 1 := own_ge1 (own_nlt h1 (by decide))
  have g8 : own_ge c (216 : Int32) = 1 := own_ge1 (own_nlt h1 (by decide))
  have g9 : own_ge c (247 : Int32) = 1 := own_ge1 (own_nlt h1 (by decide))
  have g10 : own_ge c (248 : Int32) = 1 := own_ge1 (own_nlt h1 (by decide))
  have g11 : own_ge c (768 : Int32) = 1 := own_ge1 (own_nlt h1 (by decide))
  have g12 : own_ge c (880 : Int32) = 1 := own_ge1 (own_nlt h1 (by decide))
  have g13 : own_ge c (894 : Int32) = 0 := own_ge0 (own_lt h2 (by decide))
  have g14 : own_ge c (895 : Int32) = 0 := own_ge0 (own_lt h2 (by decide))
  have g15 : own_ge c (8192 : Int32) = 0 := own_ge0 (own_lt h2 (by decide))
  have g16 : own_ge c (8204 : Int32) = 0 := own_ge0 (own_lt h2 (by decide))
  have g17 : own_ge c (8206 : Int32) = 0 := own_ge0 (own_lt h2 (by decide))
  have g18 : own_ge c (8304 : Int32) = 0 := own_ge0 (own_lt h2 (by decide))
  have g19 : own_ge c (8592 : Int32) = 0 := own_ge0 (own_lt h2 (by decide))
  have g20 : own_ge c (11264 : Int32) = 0 := own_ge0 (own_lt h2 (by decide))
  have g21 : own_ge c (12272 : Int32) = 0 := own_ge0 (own_lt h2 (by decide))
  have g22 : own_ge c (12289 : Int32) = 0 := own_ge0 (own_lt h2 (by decide))
  have g23 : own_ge c (55296 : Int32) = 0 := own_ge0 (own_lt h2 (by decide))
  have g24 : own_ge c (63744 : Int32) = 0 := own_ge0 (own_lt h2 (by decide))
  have g25 : own_ge c (64976 : Int32) = 0 := own_ge0 (own_lt h2 (by decide))
  have g26 : own_ge c (65008 : Int32) = 0 := own_ge0 (own_lt h2 (by decide))
  have g27 : own_ge c (65534 : Int32) = 0 := own_ge0 (own_lt h2 (by decide))
  have g28 : own_ge c (65536 : Int32) = 0 := own_ge0 (own_lt h2 (by decide))
  have g29 : own_ge c (983040 : Int32) = 0 := own_ge0 (own_lt h2 (by decide))
  have s : own_sum c = 13 := by unfold own_sum; rw [g0, g1, g2, g3, g4, g5, g6, g7, g8, g9, g10, g11, g12, g13, g14, g15, g16, g17, g18, g19, g20, g21, g22, g23, g24, g25, g26, g27, g28, g29]; rfl
  rw [own_in1 (by rw [s]; decide)]
  rw [own_n0_g (own_nlt h1 (by decide)) (own_gt h1 (by decide)), own_n1_g (own_nlt h1 (by decide)) (own_gt h1 (by decide)), own_n2_n (fun q => absurd (own_nlt h1 (by decide : (96 : Int32) ≤ (880 : Int32))) (by rw [q]; decide)), own_n3_g (own_nlt h1 (by decide)) (own_gt h1 (by decide)), own_n4_g (own_nlt h1 (by decide)) (own_gt h1 (by decide)), own_n5_g (own_nlt h1 (by decide)) (own_gt h1 (by decide)), own_n6_y (own_nlt h1 (by decide)) (own_ngt h2 (by decide))]
theorem own_case14 {c : Int32} (h1 : ¬ c < (894 : Int32)) (h2 : c < (895 : Int32)) : own_n0 c = own_in c := by
  have g0 : own_ge c (65 : Int32) = 1 := own_ge1 (own_nlt h1 (by decide))
  have g1 : own_ge c (91 : Int32) = 1 := own_ge1 (own_nlt h1 (by decide))
  have g2 : own_ge c (95 : Int32) = 1 := own_ge1 (own_nlt h1 (by decide))
  have g3 : own_ge c (96 : Int32) = 1 := own_ge1 (own_nlt h1 (by decide))
  have g4 : own_ge c (97 : Int32) = 1 := own_ge1 (own_nlt h1 (by decide))
  have g5 : own_ge c (123 : Int32) = 1 := own_ge1 (own_nlt h1 (by decide))
  have g6 : own_ge c (192 : Int32) = 1 := own_ge1 (own_nlt h1 (by decide))
  have g7 : own_ge c (215 : Int32) = 1 := own_ge1 (own_nlt h1 (by decide))
  have g8 : own_ge c (216 : Int32) = 1 := own_ge1 (own_nlt h1 (by decide))
  have g9 : own_ge c (247 : Int32) = 1 := own_ge1 (own_nlt h1 (by decide))
  have g10 : own_ge c (248 : Int32) = 1 := own_ge1 (own_nlt h1 (by decide))
  have g11 : own_ge c (768 : Int32) = 1 := own_ge1 (own_nlt h1 (by decide))
  have g12 : own_ge c (880 : Int32) = 1 := own_ge1 (own_nlt h1 (by decide))
  have g13 : own_ge c (894 : Int32) = 1 := own_ge1 (own_nlt h1 (by decide))
  have g14 : own_ge c (895 : Int32) = 0 := own_ge0 (own_lt h2 (by decide))
  have g15 : own_ge c (8192 : Int32) = 0 := own_ge0 (own_lt h2 (by decide))
  have g16 : own_ge c (8204 : Int32) = 0 := own_ge0 (own_lt h2 (by decide))
  have g17 : own_ge c (8206 : Int32) = 0 := own_ge0 (own_lt h2 (by decide))
  have g18 : own_ge c (8304 : Int32) = 0 := own_ge0 (own_lt h2 (by decide))
  have g19 : own_ge c (8592 : Int32) = 0 := own_ge0 (own_lt h2 (by decide))
  have g20 : own_ge c (11264 : Int32) = 0 := own_ge0 (own_lt h2 (by decide))
  have g21 : own_ge c (12272 : Int32) = 0 := own_ge0 (own_lt h2 (by decide))
  have g22 : own_ge c (12289 : Int32) = 0 := own_ge0 (own_lt h2 (by decide))
  have g23 : own_ge c (55296 : Int32) = 0 := own_ge0 (own_lt h2 (by decide))
  have g24 : own_ge c (63744 : Int32) = 0 := own_ge0 (own_lt h2 (by decide))
  have g25 : own_ge c (64976 : Int32) = 0 := own_ge0 (own_lt h2 (by decide))
  have g26 : own_ge c (65008 : Int32) = 0 := own_ge0 (own_lt h2 (by decide))
  have g27 : own_ge c (65534 : Int32) = 0 := own_ge0 (own_lt h2 (by decide))
  have g28 : own_ge c (65536 : Int32) = 0 := own_ge0 (own_lt h2 (by decide))
  have g29 : own_ge c (983040 : Int32) = 0 := own_ge0 (own_lt h2 (by decide))
  have s : own_sum c = 14 := by unfold own_sum; rw [g0, g1, g2, g3, g4, g5, g6, g7, g8, g9, g10, g11, g12, g13, g14, g15, g16, g17, g18, g19, g20, g21, g22, g23, g24, g25, g26, g27, g28, g29]; rfl
  rw [own_in0 (by rw [s]; decide)]
  rw [own_n0_g (own_nlt h1 (by decide)) (own_gt h1 (by decide)), own_n1_g (own_nlt h1 (by decide)) (own_gt h1 (by decide)), own_n2_n (fun q => absurd (own_nlt h1 (by decide : (96 : Int32) ≤ (894 : Int32))) (by rw [q]; decide)), own_n3_g (own_nlt h1 (by decide)) (own_gt h1 (by decide)), own_n4_g (own_nlt h1 (by decide)) (own_gt h1 (by decide)), own_n5_g (own_nlt h1 (by decide)) (own_gt h1 (by decide)), own_n6_g (own_nlt h1 (by decide)) (own_gt h1 (by decide)), own_n7_l (own_lt h2 (by decide)), own_n8_l (own_lt h2 (by decide)), own_n9_l (own_lt h2 (by decide)), own_n10_l (own_lt h2 (by decide)), own_n11_l (own_lt h2 (by decide)), own_n12_l (own_lt h2 (by decide)), own_n13_l (own_lt h2 (by decide)), own_n14_l (own_lt h2 (by decide))]
theorem own_case15 {c : Int32} (h1 : ¬ c < (895 : Int32)) (h2 : c < (8192 : Int32)) : own_n0 c = own_in c := by
  have g0 : own_ge c (65 : Int32) = 1 := own_ge1 (own_nlt h1 (by decide))
  have g1 : own_ge c (91 : Int32) = 1 := own_ge1 (own_nlt h1 (by decide))
  have g2 : own_ge c (95 : Int32) = 1 := own_ge1 (own_nlt h1 (by decide))
  have g3 : own_ge c (96 : Int32) = 1 := own_ge1 (own_nlt h1 (by decide))
  have g4 : own_ge c (97 : Int32) = 1 := own_ge1 (own_nlt h1 (by decide))
  have g5 : own_ge c (123 : Int32) = 1 := own_ge1 (own_nlt h1 (by decide))
  have g6 : own_ge c (192 : Int32) = 1 := own_ge1 (own_nlt h1 (by decide))
  have g7 : own_ge c (215 : Int32) = 1 := own_ge1 (own_nlt h1 (by decide))
  have g8 : own_ge c (216 : Int32) = 1 := own_ge1 (own_nlt h1 (by decide))
  have g9 : own_ge c (247 : Int32) = 1 := own_ge1 (own_nlt h1 (by decide))
  have g10 : own_ge c (248 : Int32) = 1 := own_ge1 (own_nlt h1 (by decide))
  have g11 : own_ge c (768 : Int32) = 1 := own_ge1 (own_nlt h1 (by decide))
  have g12 : own_ge c (880 : Int32) = 1 := own_ge1 (own_nlt h1 (by decide))
  have g13 : own_ge c (894 : Int32) = 1 := own_ge1 (own_nlt h1 (by decide))
  have g14 : own_ge c (895 : Int32) = 1 := own_ge1 (own_nlt h1 (by decide))
  have g15 : own_ge c (8192 : Int32) = 0 := own_ge0 (own_lt h2 (by decide))
  have g16 : own_ge c (8204 : Int32) = 0 := own_ge0 (own_lt h2 (by decide))
  have g17 : own_ge c (8206 : Int32) = 0 := own_ge0 (own_lt h2 (by decide))
  have g18 : own_ge c (8304 : Int32) = 0 := own_ge0 (own_lt h2 (by decide))
  have g19 : own_ge c (8592 : Int32) = 0 := own_ge0 (own_lt h2 (by decide))
  have g20 : own_ge c (11264 : Int32) = 0 := own_ge0 (own_lt h2 (by decide))
  have g21 : own_ge c (12272 : Int32) = 0 := own_ge0 (own_lt h2 (by decide))
  have g22 : own_ge c (12289 : Int32) = 0 := own_ge0 (own_lt h2 (by decide))
  have g23 : own_ge c (55296 : Int32) = 0 := own_ge0 (own_lt h2 (by decide))
  have g24 : own_ge c (63744 : Int32) = 0 := own_ge0 (own_lt h2 (by decide))
  have g25 : own_ge c (64976 : Int32) = 0 := own_ge0 (own_lt h2 (by decide))
  have g26 : own_ge c (65008 : Int32) = 0 := own_ge0 (own_lt h2 (by decide))
  have g27 : own_ge c (65534 : Int32) = 0 := own_ge0 (own_lt h2 (by decide))
  have g28 : own_ge c (65536 : Int32) = 0 := own_ge0 (own_lt h2 (by decide))
  have g29 : own_ge c (983040 : Int32) = 0 := own_ge0 (own_lt h2 (by decide))
  have s : own_sum c = 15 := by unfold own_sum; rw [g0, g1, g2, g3, g4, g5, g6, g7, g8, g9, g10, g11, g12, g13, g14, g15, g16, g17, g18, g19, g20, g21, g22, g23, g24, g25, g26, g27, g28, g29]; rfl
  rw [own_in1 (by rw [s]; decide)]
  rw [own_n0_g (own_nlt h1 (by decide)) (own_gt h1 (by decide)), own_n1_g (own_nlt h1 (by decide)) (own_gt h1 (by decide)), own_n2_n (fun q => absurd (own_nlt h1 (by decide : (96 : Int32) ≤ (895 : Int32))) (by rw [q]; decide)), own_n3_g (own_nlt h1 (by decide)) (own_gt h1 (by decide)), own_n4_g (own_nlt h1 (by decide)) (own_gt h1 (by decide)), own_n5_g (own_nlt h1 (by decide)) (own_gt h1 (by decide)), own_n6_g (own_nlt h1 (by decide)) (own_gt h1 (by decide)), own_n7_y (own_nlt h1 (by decide)) (own_ngt h2 (by decide))]
theorem own_case16 {c : Int32} (h1 : ¬ c < (8192 : Int32)) (h2 : c < (8204 : Int32)) : own_n0 c = own_in c := by
  have g0 : own_ge c (65 : Int32) = 1 := own_ge1 (own_nlt h1 (by decide))
  have g1 : own_ge c (91 : Int32) = 1 := own_ge1 (own_nlt h1 (by decide))
  have g2 : own_ge c (95 : Int32) = 1 := own_ge1 (own_nlt h1 (by decide))
  have g3 : own_ge c (96 : Int32) = 1 := own_ge1 (own_nlt h1 (by decide))
  have g4 : own_ge c (97 : Int32) = 1 := own_ge1 (own_nlt h1 (by decide))
  have g5 : own_ge c (123 : Int32) = 1 := own_ge1 (own_nlt h1 (by decide))
  have g6 : own_ge c (192 : Int32) = 1 := own_ge1 (own_nlt h1 (by decide))
  have g7 : own_ge c (215 : Int32) = 1 := own_ge1 (own_nlt h1 (by decide))
  have g8 : own_ge c (216 : Int32) = 1 := own_ge1 (own_nlt h1 (by decide))
  have g9 : own_ge c (247 : Int32) = 1 := own_ge1 (own_nlt h1 (by decide))
  have g10 : own_ge c (248 : Int32) = 1 := own_ge1 (own_nlt h1 (by decide))
  have g11 : own_ge c (768 : Int32) = 1 := own_ge1 (own_nlt h1 (by decide))
  have g12 : own_ge c (880 : Int32) = 1 := own_ge1 (own_nlt h1 (by decide))
  have g13 : own_ge c (894 : Int32) = 1 := own_ge1 (own_nlt h1 (by decide))
  have g14 : own_ge c (895 : Int32) = 1 := own_ge1 (own_nlt h1 (by decide))
  have g15 : own_ge c (8192 : Int32) = 1 := own_ge1 (own_nlt h1 (by decide))
  have g16 : own_ge c (8204 : Int32) = 0 := own_ge0 (own_lt h2 (by decide))
  have g17 : own_ge c (8206 : Int32) = 0 := own_ge0 (own_lt h2 (by decide))
  have g18 : own_ge c (8304 : Int32) = 0 := own_ge0 (own_lt h2 (by decide))
  have g19 : own_ge c (8592 : Int32) = 0 := own_ge0 (own_lt h2 (by decide))
  have g20 : own_ge c (11264 : Int32) = 0 := own_ge0 (own_lt h2 (by decide))
  have g21 : own_ge c (12272 : Int32) = 0 := own_ge0 (own_lt h2 (by decide))
  have g22 : own_ge c (12289 : Int32) = 0 := own_ge0 (own_lt h2 (by decide))
  have g23 : own_ge c (55296 : Int32) = 0 := own_ge0 (own_lt h2 (by decide))
  have g24 : own_ge c (63744 : Int32) = 0 := own_ge0 (own_lt h2 (by decide))
  have g25 : own_ge c (64976 : Int32) = 0 := own_ge0 (own_lt h2 (by decide))
  have g26 : own_ge c (65008 : Int32) = 0 := own_ge0 (own_lt h2 (by decide))
  have g27 : own_ge c (65534 : Int32) = 0 := own_ge0 (own_lt h2 (by decide))
  have g28 : own_ge c (65536 : Int32) = 0 := own_ge0 (own_lt h2 (by decide))
  have g29 : own_ge c (983040 : Int32) = 0 := own_ge0 (own_lt h2 (by decide))
  have s : own_sum c = 16 := by unfold own_sum; rw [g0, g1, g2, g3, g4, g5, g6, g7, g8, g9, g10, g11, g12, g13, g14, g15, g16, g17, g18, g19, g20, g21, g22, g23, g24, g25, g26, g27, g28, g29]; rfl
  rw [own_in0 (by rw [s]; decide)]
  rw [own_n0_g (own_nlt h1 (by decide)) (own_gt h1 (by decide)), own_n1_g (own_nlt h1 (by decide)) (own_gt h1 (by decide)), own_n2_n (fun q => absurd (own_nlt h1 (by decide : (96 : Int32) ≤ (8192 : Int32))) (by rw [q]; decide)), own_n3_g (own_nlt h1 (by decide)) (own_gt h1 (by decide)), own_n4_g (own_nlt h1 (by decide)) (own_gt h1 (by decide)), own_n5_g (own_nlt h1 (by decide)) (own_gt h1 (by decide)), own_n6_g (own_nlt h1 (by decide)) (own_gt h1 (by decide)), own_n7_g (own_nlt h1 (by decide)) (own_gt h1 (by decide)), own_n8_l (own_lt h2 (by decide)), own_n9_l (own_lt h2 (by decide)), own_n10_l (own_lt h2 (by decide)), own_n11_l (own_lt h2 (by decide)), own_n12_l (own_lt h2 (by decide)), own_n13_l (own_lt h2 (by decide)), own_n14_l (own_lt h2 (by decide))]
theorem own_case17 {c : Int32} (h1 : ¬ c < (8204 : Int32)) (h2 : c < (8206 : Int32)) : own_n0 c = own_in c := by
  have g0 : own_ge c (65 : Int32) = 1 := own_ge1 (own_nlt h1 (by decide))
  have g1 : own_ge c (91 : Int32) = 1 := own_ge1 (own_nlt h1 (by decide))
  have g2 : own_ge c (95 : Int32) = 1 := own_ge1 (own_nlt h1 (by decide))
  have g3 : own_ge c (96 : Int32) = 1 := own_ge1 (own_nlt h1 (by decide))
  have g4 : own_ge c (97 : Int32) = 1 := own_ge1 (own_nlt h1 (by decide))
  have g5 : own_ge c (123 : Int32) = 1 := own_ge1 (own_nlt h1 (by decide))
  have g6 : own_ge c (192 : Int32) = 1 := own_ge1 (own_nlt h1 (by decide))
  have g7 : own_ge c (215 : Int32) = 1 := own_ge1 (own_nlt h1 (by decide))
  have g8 : own_ge c (216 : Int32) = 1 := own_ge1 (own_nlt h1 (by decide))
  have g9 : own_ge c (247 : Int32) = 1 := own_ge1 (own_nlt h1 (by decide))
  have g10 : own_ge c (248 : Int32) = 1 := own_ge1 (own_nlt h1 (by decide))
  have g11 : own_ge c (768 : Int32) = 1 := own_ge1 (own_nlt h1 (by decide))
  have g12 : own_ge c (880 : Int32) = 1 := own_ge1 (own_nlt h1 (by decide))
  have g13 : own_ge c (894 : Int32) = 1 := own_ge1 (own_nlt h1 (by decide))
  have g14 : own_ge c (895 : Int32) = 1 := own_ge1 (own_nlt h1 (by decide))
  have g15 : own_ge c (8192 : Int32) = 1 := own_ge1 (own_nlt h1 (by decide))
  have g16 : own_ge c (8204 : Int32) = 1 := own_ge1 (own_nlt h1 (by decide))
  have g17 : own_ge c (8206 : Int32) = 0 := own_ge0 (own_lt h2 (by decide))
  have g18 : own_ge c (8304 : Int32) = 0 := own_ge0 (own_lt h2 (by decide))
  have g19 : own_ge c (8592 : Int32) = 0 := own_ge0 (own_lt h2 (by decide))
  have g20 : own_ge c (11264 : Int32) = 0 := own_ge0 (own_lt h2 (by decide))
  have g21 : own_ge c (12272 : Int32) = 0 := own_ge0 (own_lt h2 (by decide))
  have g22 : own_ge c (12289 : Int32) = 0 := own_ge0 (own_lt h2 (by decide))
  have g23 : own_ge c (55296 : Int32) = 0 := own_ge0 (own_lt h2 (by decide))
  have g24 : own_ge c (63744 : Int32) = 0 := own_ge0 (own_lt h2 (by decide))
  have g25 : own_ge c (64976 : Int32) = 0 := own_ge0 (own_lt h2 (by decide))
  have g26 : own_ge c (65008 : Int32) = 0 := own_ge0 (own_lt h2 (by decide))
  have g27 : own_ge c (65534 : Int32) = 0 := own_ge0 (own_lt h2 (by decide))
  have g28 : own_ge c (65536 : Int32) = 0 := own_ge0 (own_lt h2 (by decide))
  have g29 : own_ge c (983040 : Int32) = 0 := own_ge0 (own_lt h2 (by decide))
  have s : own_sum c = 17 := by unfold own_sum; rw [g0, g1, g2, g3, g4, g5, g6, g7, g8, g9, g10, g11, g12, g13, g14, g15, g16, g17, g18, g19, g20, g21, g22, g23, g24, g25, g26, g27, g28, g29]; rfl
  rw [own_in1 (by rw [s]; decide)]
  rw [own_n0_g (own_nlt h1 (by decide)) (own_gt h1 (by decide)), own_n1_g (own_nlt h1 (by decide)) (own_gt h1 (by decide)), own_n2_n (fun q => absurd (own_nlt h1 (by decide : (96 : Int32) ≤ (8204 : Int32))) (by rw [q]; decide)), own_n3_g (own_nlt h1 (by decide)) (own_gt h1 (by decide)), own_n4_g (own_nlt h1 (by decide)) (own_gt h1 (by decide)), own_n5_g (own_nlt h1 (by decide)) (own_gt h1 (by decide)), own_n6_g (own_nlt h1 (by decide)) (own_gt h1 (by decide)), own_n7_g (own_nlt h1 (by decide)) (own_gt h1 (by decide)), own_n8_y (own_nlt h1 (by decide)) (own_ngt h2 (by decide))]
theorem own_case18 {c : Int32} (h1 : ¬ c < (8206 : Int32)) (h2 : c < (8304 : Int32)) : own_n0 c = own_in c := by
  have g0 : own_ge c (65 : Int32) = 1 := own_ge1 (own_nlt h1 (by decide))
  have g1 : own_ge c (91 : Int32) = 1 := own_ge1 (own_nlt h1 (by decide))
  have g2 : own_ge c (95 : Int32) = 1 := own_ge1 (own_nlt h1 (by decide))
  have g3 : own_ge c (96 : Int32) = 1 := own_ge1 (own_nlt h1 (by decide))
  have g4 : own_ge c (97 : Int32) = 1 := own_ge1 (own_nlt h1 (by decide))
  have g5 : own_ge c (123 : Int32) = 1 := own_ge1 (own_nlt h1 (by decide))
  have g6 : own_ge c (192 : Int32) = 1 := own_ge1 (own_nlt h1 (by decide))
  have g7 : own_ge c (215 : Int32) = 1 := own_ge1 (own_nlt h1 (by decide))
  have g8 : own_ge c (216 : Int32) = 1 := own_ge1 (own_nlt h1 (by decide))
  have g9 : own_ge c (247 : Int32) = 1 := own_ge1 (own_nlt h1 (by decide))
  have g10 : own_ge c (248 : Int32) = 1 := own_ge1 (own_nlt h1 (by decide))
  have g11 : own_ge c (768 : Int32) = 1 := own_ge1 (own_nlt h1 (by decide))
  have g12 : own_ge c (880 : Int32) = 1 := own_ge1 (own_nlt h1 (by decide))
  have g13 : own_ge c (894 : Int32) = 1 := own_ge1 (own_nlt h1 (by decide))
  have g14 : own_ge c (895 : Int32) = 1 := own_ge1 (own_nlt h1 (by decide))
  have g15 : own_ge c (8192 : Int32) = 1 := own_ge1 (own_nlt h1 (by decide))
  have g16 : own_ge c (8204 : Int32) = 1 := own_ge1 (own_nlt h1 (by decide))
  have g17 : own_ge c (8206 : Int32) = 1 := own_ge1 (own_nlt h1 (by decide))
  have g18 : own_ge c (8304 : Int32) = 0 := own_ge0 (own_lt h2 (by decide))
  have g19 : own_ge c (8592 : Int32) = 0 := own_ge0 (own_lt h2 (by decide))
  have g20 : own_ge c (11264 : Int32) = 0 := own_ge0 (own_lt h2 (by decide))
  have g21 : own_ge c (12272 : Int32) = 0 := own_ge0 (own_lt h2 (by decide))
  have g22 : own_ge c (12289 : Int32) = 0 := own_ge0 (own_lt h2 (by decide))
  have g23 : own_ge c (55296 : Int32) = 0 := own_ge0 (own_lt h2 (by decide))
  have g24 : own_ge c (63744 : Int32) = 0 := own_ge0 (own_lt h2 (by decide))
  have g25 : own_ge c (64976 : Int32) = 0 := own_ge0 (own_lt h2 (by decide))
  have g26 : own_ge c (65008 : Int32) = 0 := own_ge0 (own_lt h2 (by decide))
  have g27 : own_ge c (65534 : Int32) = 0 := own_ge0 (own_lt h2 (by decide))
  have g28 : own_ge c (65536 : Int32) = 0 := own_ge0 (own_lt h2 (by decide))
  have g29 : own_ge c (983040 : Int32) = 0 := own_ge0 (own_lt h2 (by decide))
  have s : own_sum c = 18 := by unfold own_sum; rw [g0, g1, g2, g3, g4, g5, g6, g7, g8, g9, g10, g11, g12, g13, g14, g15, g16, g17, g18, g19, g20, g21, g22, g23, g24, g25, g26, g27, g28, g29]; rfl
  rw [own_in0 (by rw [s]; decide)]
  rw [own_n0_g (own_nlt h1 (by decide)) (own_gt h1 (by decide)), own_n1_g (own_nlt h1 (by decide)) (own_gt h1 (by decide)), own_n2_n (fun q => absurd (own_nlt h1 (by decide : (96 : Int32) ≤ (8206 : Int32))) (by rw [q]; decide)), own_n3_g (own_nlt h1 (by decide)) (own_gt h1 (by decide)), own_n4_g (own_nlt h1 (by decide)) (own_gt h1 (by decide)), own_n5_g (own_nlt h1 (by decide)) (own_gt h1 (by decide)), own_n6_g (own_nlt h1 (by decide)) (own_gt h1 (by decide)), own_n7_g (own_nlt h1 (by decide)) (own_gt h1 (by decide)), own_n8_g (own_nlt h1 (by decide)) (own_gt h1 (by decide)), own_n9_l (own_lt h2 (by decide)), own_n10_l (own_lt h2 (by decide)), own_n11_l (own_lt h2 (by decide)), own_n12_l (own_lt h2 (by decide)), own_n13_l (own_lt h2 (by decide)), own_n14_l (own_lt h2 (by decide))]
theorem own_case19 {c : Int32} (h1 : ¬ c < (8304 : Int32)) (h2 : c < (8592 : Int32)) : own_n0 c = own_in c := by
  have g0 : own_ge c (65 : Int32) = 1 := own_ge1 (own_nlt h1 (by decide))
  have g1 : own_ge c (91 : Int32) = 1 := own_ge1 (own_nlt h1 (by decide))
  have g2 : own_ge c (95 : Int32) = 1 := own_ge1 (own_nlt h1 (by decide))
  have g3 : own_ge c (96 : Int32) = 1 := own_ge1 (own_nlt h1 (by decide))
  have g4 : own_ge c (97 : Int32) = 1 := own_ge1 (own_nlt h1 (by decide))
  have g5 : own_ge c (123 : Int32) = 1 := own_ge1 (own_nlt h1 (by decide))
  have g6 : own_ge c (192 : Int32) = 1 := own_ge1 (own_nlt h1 (by decide))
  have g7 : own_ge c (215 : Int32) = 1 := own_ge1 (own_nlt h1 (by decide))
  have g8 : own_ge c (216 : Int32) = 1 := own_ge1 (own_nlt h1 (by decide))
  have g9 : own_ge c (247 : Int32) = 1 := own_ge1 (own_nlt h1 (by decide))
  have g10 : own_ge c (248 : Int32) = 1 := own_ge1 (own_nlt h1 (by decide))
  have g11 : own_ge c (768 : Int32) = 1 := own_ge1 (own_nlt h1 (by decide))
  have g12 : own_ge c (880 : Int32) = 1 := own_ge1 (own_nlt h1 (by decide))
  have g13 : own_ge c (894 : Int32) = 1 := own_ge1 (own_nlt h1 (by decide))
  have g14 : own_ge c (895 : Int32) = 1 := own_ge1 (own_nlt h1 (by decide))
  have g15 : own_ge c (8192 : Int32) = 1 := own_ge1 (own_nlt h1 (by decide))
  have g16 : own_ge c (8204 : Int32) = 1 := own_ge1 (own_nlt h1 (by decide))
  have g17 : own_ge c (8206 : Int32) = 1 := own_ge1 (own_nlt h1 (by decide))
  have g18 : own_ge c (8304 : Int32) = 1 := own_ge1 (own_nlt h1 (by decide))
  have g19 : own_ge c (8592 : Int32) = 0 := own_ge0 (own_lt h2 (by decide))
  have g20 : own_ge c (11264 : Int32) = 0 := own_ge0 (own_lt h2 (by decide))
  have g21 : own_ge c (12272 : Int32) = 0 := own_ge0 (own_lt h2 (by decide))
  have g22 : own_ge c (12289 : Int32) = 0 := own_ge0 (own_lt h2 (by decide))
  have g23 : own_ge c (55296 : Int32) = 0 := own_ge0 (own_lt h2 (by decide))
  have g24 : own_ge c (63744 : Int32) = 0 := own_ge0 (own_lt h2 (by decide))
  have g25 : own_ge c (64976 : Int32) = 0 := own_ge0 (own_lt h2 (by decide))
  have g26 : own_ge c (65008 : Int32) = 0 := own_ge0 (own_lt h2 (by decide))
  have g27 : own_ge c (65534 : Int32) = 0 := own_ge0 (own_lt h2 (by decide))
  have g28 : own_ge c (65536 : Int32) = 0 := own_ge0 (own_lt h2 (by decide))
  have g29 : own_ge c (983040 : Int32) = 0 := own_ge0 (own_lt h2 (by decide))
  have s : own_sum c = 19 := by unfold own_sum; rw [g0, g1, g2, g3, g4, g5, g6, g7, g8, g9, g10, g11, g12, g13, g14, g15, g16, g17, g18, g19, g20, g21, g22, g23, g24, g25, g26, g27, g28, g29]; rfl
  rw [own_in1 (by rw [s]; decide)]
  rw [own_n0_g (own_nlt h1 (by decide)) (own_gt h1 (by decide)), own_n1_g (own_nlt h1 (by decide)) (own_gt h1 (by decide)), own_n2_n (fun q => absurd (own_nlt h1 (by decide : (96 : Int32) ≤ (8304 : Int32))) (by rw [q]; decide)), own_n3_g (own_nlt h1 (by decide)) (own_gt h1 (by decide)), own_n4_g (own_nlt h1 (by decide)) (own_gt h1 (by decide)), own_n5_g (own_nlt h1 (by decide)) (own_gt h1 (by decide)), own_n6_g (own_nlt h1 (by decide)) (own_gt h1 (by decide)), own_n7_g (own_nlt h1 (by decide)) (own_gt h1 (by decide)), own_n8_g (own_nlt h1 (by decide)) (own_gt h1 (by decide)), own_n9_y (own_nlt h1 (by decide)) (own_ngt h2 (by decide))]
theorem own_case20 {c : Int32} (h1 : ¬ c < (8592 : Int32)) (h2 : c < (11264 : Int32)) : own_n0 c = own_in c := by
  have g0 : own_ge c (65 : Int32) = 1 := own_ge1 (own_nlt h1 (by decide))
  have g1 : own_ge c (91 : Int32) = 1 := own_ge1 (own_nlt h1 (by decide))
  have g2 : own_ge c (95 : Int32) = 1 := own_ge1 (own_nlt h1 (by decide))
  have g3 : own_ge c (96 : Int32) = 1 := own_ge1 (own_nlt h1 (by decide))
  have g4 : own_ge c (97 : Int32) = 1 := own_ge1 (own_nlt h1 (by decide))
  have g5 : own_ge c (123 : Int32) = 1 := own_ge1 (own_nlt h1 (by decide))
  have g6 : own_ge c (192 : Int32) = 1 := own_ge1 (own_nlt h1 (by decide))
  have g7 : own_ge c (215 : Int32) = 1 := own_ge1 (own_nlt h1 (by decide))
  have g8 : own_ge c (216 : Int32) = 1 := own_ge1 (own_nlt h1 (by decide))
  have g9 : own_ge c (247 : Int32) = 1 := own_ge1 (own_nlt h1 (by decide))
  have g10 : own_ge c (248 : Int32) = 1 := own_ge1 (own_nlt h1 (by decide))
  have g11 : own_ge c (768 : Int32) = 1 := own_ge1 (own_nlt h1 (by decide))
  have g12 : own_ge c (880 : Int32) = 1 := own_ge1 (own_nlt h1 (by decide))
  have g13 : own_ge c (894 : Int32) = 1 := own_ge1 (own_nlt h1 (by decide))
  have g14 : own_ge c (895 : Int32) = 1 := own_ge1 (own_nlt h1 (by decide))
  have g15 : own_ge c (8192 : Int32) = 1 := own_ge1 (own_nlt h1 (by decide))
  have g16 : own_ge c (8204 : Int32) = 1 := own_ge1 (own_nlt h1 (by decide))
  have g17 : own_ge c (8206 : Int32) = 1 := own_ge1 (own_nlt h1 (by decide))
  have g18 : own_ge c (8304 : Int32) = 1 := own_ge1 (own_nlt h1 (by decide))
  have g19 : own_ge c (8592 : Int32) = 1 := own_ge1 (own_nlt h1 (by decide))
  have g20 : own_ge c (11264 : Int32) = 0 := own_ge0 (own_lt h2 (by decide))
  have g21 : own_ge c (12272 : Int32) = 0 := own_ge0 (own_lt h2 (by decide))
  have g22 : own_ge c (12289 : Int32) = 0 := own_ge0 (own_lt h2 (by decide))
  have g23 : own_ge c (55296 : Int32) = 0 := own_ge0 (own_lt h2 (by decide))
  have g24 : own_ge c (63744 : Int32) = 0 := own_ge0 (own_lt h2 (by decide))
  have g25 : own_ge c (64976 : Int32) = 0 := own_ge0 (own_lt h2 (by decide))
  have g26 : own_ge c (65008 : Int32) = 0 := own_ge0 (own_lt h2 (by decide))
  have g27 : own_ge c (65534 : Int32) = 0 := own_ge0 (own_lt h2 (by decide))
  have g28 : own_ge c (65536 : Int32) = 0 := own_ge0 (own_lt h2 (by decide))
  have g29 : own_ge c (983040 : Int32) = 0 := own_ge0 (own_lt h2 (by decide))
  have s : own_sum c = 20 := by unfold own_sum; rw [g0, g1, g2, g3, g4, g5, g6, g7, g8, g9, g10, g11, g12, g13, g14, g15, g16, g17, g18, g19, g20, g21, g22, g23, g24, g25, g26, g27, g28, g29]; rfl
  rw [own_in0 (by rw [s]; decide)]
  rw [own_n0_g (own_nlt h1 (by decide)) (own_gt h1 (by decide)), own_n1_g (own_nlt h1 (by decide)) (own_gt h1 (by decide)), own_n2_n (fun q => absurd (own_nlt h1 (by decide : (96 : Int32) ≤ (8592 : Int32))) (by rw [q]; decide)), own_n3_g (own_nlt h1 (by decide)) (own_gt h1 (by decide)), own_n4_g (own_nlt h1 (by decide)) (own_gt h1 (by decide)), own_n5_g (own_nlt h1 (by decide)) (own_gt h1 (by decide)), own_n6_g (own_nlt h1 (by decide)) (own_gt h1 (by decide)), own_n7_g (own_nlt h1 (by decide)) (own_gt h1 (by decide)), own_n8_g (own_nlt h1 (by decide)) (own_gt h1 (by decide)), own_n9_g (own_nlt h1 (by decide)) (own_gt h1 (by decide)), own_n10_l (own_lt h2 (by decide)), own_n11_l (own_lt h2 (by decide)), own_n12_l (own_lt h2 (by decide)), own_n13_l (own_lt h2 (by decide)), own_n14_l (own_lt h2 (by decide))]
theorem own_case21 {c : Int32} (h1 : ¬ c < (11264 : Int32)) (h2 : c < (12272 : Int32)) : own_n0 c = own_in c := by
  have g0 : own_ge c (65 : Int32) = 1 := own_ge1 (own_nlt h1 (by decide))
  have g1 : own_ge c (91 : Int32) = 1 := own_ge1 (own_nlt h1 (by decide))
  have g2 : own_ge c (95 : Int32) = 1 := own_ge1 (own_nlt h1 (by decide))
  have g3 : own_ge c (96 : Int32) = 1 := own_ge1 (own_nlt h1 (by decide))
  have g4 : own_ge c (97 : Int32) = 1 := own_ge1 (own_nlt h1 (by decide))
  have g5 : own_ge c (123 : Int32) = 1 := own_ge1 (own_nlt h1 (by decide))
  have g6 : own_ge c (192 : Int32) = 1 := own_ge1 (own_nlt h1 (by decide))
  have g7 : own_ge c (215 : Int32) = 1 := own_ge1 (own_nlt h1 (by decide))
  have g8 : own_ge c (216 : Int32) = 1 := own_ge1 (own_nlt h1 (by decide))
  have g9 : own_ge c (247 : Int32) = 1 := own_ge1 (own_nlt h1 (by decide))
  have g10 : own_ge c (248 : Int32) = 1 := own_ge1 (own_nlt h1 (by decide))
  have g11 : own_ge c (768 : Int32) = 1 := own_ge1 (own_nlt h1 (by decide))
  have g12 : own_ge c (880 : Int32) = 1 := own_ge1 (own_nlt h1 (by decide))
  have g13 : own_ge c (894 : Int32) = 1 := own_ge1 (own_nlt h1 (by decide))
  have g14 : own_ge c (895 : Int32) = 1 := own_ge1 (own_nlt h1 (by decide))
  have g15 : own_ge c (8192 : Int32) = 1 := own_ge1 (own_nlt h1 (by decide))
  have g16 : own_ge c (8204 : Int32) = 1 := own_ge1 (own_nlt h1 (by decide))
  have g17 : own_ge c (8206 : Int32) = 1 := own_ge1 (own_nlt h1 (by decide))
  have g18 : own_ge c (8304 : Int32) = 1 := own_ge1 (own_nlt h1 (by decide))
  have g19 : own_ge c (8592 : Int32) = 1 := own_ge1 (own_nlt h1 (by decide))
  have g20 : own_ge c (11264 : Int32) = 1 := own_ge1 (own_nlt h1 (by decide))
  have g21 : own_ge c (12272 : Int32) = 0 := own_ge0 (own_lt h2 (by decide))
  have g22 : own_ge c (12289 : Int32) = 0 := own_ge0 (own_lt h2 (by decide))
  have g23 : own_ge c (55296 : Int32) = 0 := own_ge0 (own_lt h2 (by decide))
  have g24 : own_ge c (63744 : Int32) = 0 := own_ge0 (own_lt h2 (by decide))
  have g25 : own_ge c (64976 : Int32) = 0 := own_ge0 (own_lt h2 (by decide))
  have g26 : own_ge c (65008 : Int32) = 0 := own_ge0 (own_lt h2 (by decide))
  have g27 : own_ge c (65534 : Int32) = 0 := own_ge0 (own_lt h2 (by decide))
  have g28 : own_ge c (65536 : Int32) = 0 := own_ge0 (own_lt h2 (by decide))
  have g29 : own_ge c (983040 : Int32) = 0 := own_ge0 (own_lt h2 (by decide))
  have s : own_sum c = 21 := by unfold own_sum; rw [g0, g1, g2, g3, g4, g5, g6, g7, g8, g9, g10, g11, g12, g13, g14, g15, g16, g17, g18, g19, g20, g21, g22, g23, g24, g25, g26, g27, g28, g29]; rfl
  rw [own_in1 (by rw [s]; decide)]
  rw [own_n0_g (own_nlt h1 (by decide)) (own_gt h1 (by decide)), own_n1_g (own_nlt h1 (by decide)) (own_gt h1 (by decide)), own_n2_n (fun q => absurd (own_nlt h1 (by decide : (96 : Int32) ≤ (11264 : Int32))) (by rw [q]; decide)), own_n3_g (own_nlt h1 (by decide)) (own_gt h1 (by decide)), own_n4_g (own_nlt h1 (by decide)) (own_gt h1 (by decide)), own_n5_g (own_nlt h1 (by decide)) (own_gt h1 (by decide)), own_n6_g (own_nlt h1 (by decide)) (own_gt h1 (by decide)), own_n7_g (own_nlt h1 (by decide)) (own_gt h1 (by decide)), own_n8_g (own_nlt h1 (by decide)) (own_gt h1 (by decide)), own_n9_g (own_nlt h1 (by decide)) (own_gt h1 (by decide)), own_n10_y (own_nlt h1 (by decide)) (own_ngt h2 (by decide))]
theorem own_case22 {c : Int32} (h1 : ¬ c < (12272 : Int32)) (h2 : c < (12289 : Int32)) : own_n0 c = own_in c := by
  have g0 : own_ge c (65 : Int32) = 1 := own_ge1 (own_nlt h1 (by decide))
  have g1 : own_ge c (91 : Int32) = 1 := own_ge1 (own_nlt h1 (by decide))
  have g2 : own_ge c (95 : Int32) = 1 := own_ge1 (own_nlt h1 (by decide))
  have g3 : own_ge c (96 : Int32) = 1 := own_ge1 (own_nlt h1 (by decide))
  have g4 : own_ge c (97 : Int32) = 1 := own_ge1 (own_nlt h1 (by decide))
  have g5 : own_ge c (123 : Int32) = 1 := own_ge1 (own_nlt h1 (by decide))
  have g6 : own_ge c (192 : Int32) = 1 := own_ge1 (own_nlt h1 (by decide))
  have g7 : own_ge c (215 : Int32) = 1 := own_ge1 (own_nlt h1 (by decide))
  have g8 : own_ge c (216 : Int32) = 1 := own_ge1 (own_nlt h1 (by decide))
  have g9 : own_ge c (247 : Int32) = 1 := own_ge1 (own_nlt h1 (by decide))
  have g10 : own_ge c (248 : Int32) = 1 := own_ge1 (own_nlt h1 (by decide))
  have g11 : own_ge c (768 : Int32) = 1 := own_ge1 (own_nlt h1 (by decide))
  have g12 : own_ge c (880 : Int32) = 1 := own_ge1 (own_nlt h1 (by decide))
  have g13 : own_ge c (894 : Int32) = 1 := own_ge1 (own_nlt h1 (by decide))
  have g14 : own_ge c (895 : Int32) = 1 := own_ge1 (own_nlt h1 (by decide))
  have g15 : own_ge c (8192 : Int32) = 1 := own_ge1 (own_nlt h1 (by decide))
  have g16 : own_ge c (8204 : Int32) = 1 := own_ge1 (own_nlt h1 (by decide))
  have g17 : own_ge c (8206 : Int32) = 1 := own_ge1 (own_nlt h1 (by decide))
  have g18 : own_ge c (8304 : Int32) = 1 := own_ge1 (own_nlt h1 (by decide))
  have g19 : own_ge c (8592 : Int32) = 1 := own_ge1 (own_nlt h1 (by decide))
  have g20 : own_ge c (11264 : Int32) = 1 := own_ge1 (own_nlt h1 (by decide))
  have g21 : own_ge c (12272 : Int32) = 1 := own_ge1 (own_nlt h1 (by decide))
  have g22 : own_ge c (12289 : Int32) = 0 := own_ge0 (own_lt h2 (by decide))
  have g23 : own_ge c (55296 : Int32) = 0 := own_ge0 (own_lt h2 (by decide))
  have g24 : own_ge c (63744 : Int32) = 0 := own_ge0 (own_lt h2 (by decide))
  have g25 : own_ge c (64976 : Int32) = 0 := own_ge0 (own_lt h2 (by decide))
  have g26 : own_ge c (65008 : Int32) = 0 := own_ge0 (own_lt h2 (by decide))
  have g27 : own_ge c (65534 : Int32) = 0 := own_ge0 (own_lt h2 (by decide))
  have g28 : own_ge c (65536 : Int32) = 0 := own_ge0 (own_lt h2 (by decide))
  have g29 : own_ge c (983040 : Int32) = 0 := own_ge0 (own_lt h2 (by decide))
  have s : own_sum c = 22 := by unfold own_sum; rw [g0, g1, g2, g3, g4, g5, g6, g7, g8, g9, g10, g11, g12, g13, g14, g15, g16, g17, g18, g19, g20, g21, g22, g23, g24, g25, g26, g27, g28, g29]; rfl
  rw [own_in0 (by rw [s]; decide)]
  rw [own_n0_g (own_nlt h1 (by decide)) (own_gt h1 (by decide)), own_n1_g (own_nlt h1 (by decide)) (own_gt h1 (by decide)), own_n2_n (fun q => absurd (own_nlt h1 (by decide : (96 : Int32) ≤ (12272 : Int32))) (by rw [q]; decide)), own_n3_g (own_nlt h1 (by decide)) (own_gt h1 (by decide)), own_n4_g (own_nlt h1 (by decide)) (own_gt h1 (by decide)), own_n5_g (own_nlt h1 (by decide)) (own_gt h1 (by decide)), own_n6_g (own_nlt h1 (by decide)) (own_gt h1 (by decide)), own_n7_g (own_nlt h1 (by decide)) (own_gt h1 (by decide)), own_n8_g (own_nlt h1 (by decide)) (own_gt h1 (by decide)), own_n9_g (own_nlt h1 (by decide)) (own_gt h1 (by decide)), own_n10_g (own_nlt h1 (by decide)) (own_gt h1 (by decide)), own_n11_l (own_lt h2 (by decide)), own_n12_l (own_lt h2 (by decide)), own_n13_l (own_lt h2 (by decide)), own_n14_l (own_lt h2 (by decide))]
theorem own_case23 {c : Int32} (h1 : ¬ c < (12289 : Int32)) (h2 : c < (55296 : Int32)) : own_n0 c = own_in c := by
  have g0 : own_ge c (65 : Int32) = 1 := own_ge1 (own_nlt h1 (by decide))
  have g1 : own_ge c (91 : Int32) = 1 := own_ge1 (own_nlt h1 (by decide))
  have g2 : own_ge c (95 : Int32) = 1 := own_ge1 (own_nlt h1 (by decide))
  have g3 : own_ge c (96 : Int32) = 1 := own_ge1 (own_nlt h1 (by decide))
  have g4 : own_ge c (97 : Int32) = 1 := own_ge1 (own_nlt h1 (by decide))
  have g5 : own_ge c (123 : Int32) = 1 := own_ge1 (own_nlt h1 (by decide))
  have g6 : own_ge c (192 : Int32) = 1 := own_ge1 (own_nlt h1 (by decide))
  have g7 : own_ge c (215 : Int32) = 1 := own_ge1 (own_nlt h1 (by decide))
  have g8 : own_ge c (216 : Int32) = 1 := own_ge1 (own_nlt h1 (by decide))
  have g9 : own_ge c (247 : Int32) = 1 := own_ge1 (own_nlt h1 (by decide))
  have g10 : own_ge c (248 : Int32) = 1 := own_ge1 (own_nlt h1 (by decide))
  have g11 : own_ge c (768 : Int32) = 1 := own_ge1 (own_nlt h1 (by decide))
  have g12 : own_ge c (880 : Int32) = 1 := own_ge1 (own_nlt h1 (by decide))
  have g13 : own_ge c (894 : Int32) = 1 := own_ge1 (own_nlt h1 (by decide))
  have g14 : own_ge c (895 : Int32) = 1 := own_ge1 (own_nlt h1 (by decide))
  have g15 : own_ge c (8192 : Int32) = 1 := own_ge1 (own_nlt h1 (by decide))
  have g16 : own_ge c (8204 : Int32) = 1 := own_ge1 (own_nlt h1 (by decide))
  have g17 : own_ge c (8206 : Int32) = 1 := own_ge1 (own_nlt h1 (by decide))
  have g18 : own_ge c (8304 : Int32) = 1 := own_ge1 (own_nlt h1 (by decide))
  have g19 : own_ge c (8592 : Int32) = 1 := own_ge1 (own_nlt h1 (by decide))
  have g20 : own_ge c (11264 : Int32) = 1 := own_ge1 (own_nlt h1 (by decide))
  have g21 : own_ge c (12272 : Int32) = 1 := own_ge1 (own_nlt h1 (by decide))
  have g22 : own_ge c (12289 : Int32) = 1 := own_ge1 (own_nlt h1 (by decide))
  have g23 : own_ge c (55296 : Int32) = 0 := own_ge0 (own_lt h2 (by decide))
  have g24 : own_ge c (63744 : Int32) = 0 := own_ge0 (own_lt h2 (by decide))
  have g25 : own_ge c (64976 : Int32) = 0 := own_ge0 (own_lt h2 (by decide))
  have g26 : own_ge c (65008 : Int32) = 0 := own_ge0 (own_lt h2 (by decide))
  have g27 : own_ge c (65534 : Int32) = 0 := own_ge0 (own_lt h2 (by decide))
  have g28 : own_ge c (65536 : Int32) = 0 := own_ge0 (own_lt h2 (by decide))
  have g29 : own_ge c (983040 : Int32) = 0 := own_ge0 (own_lt h2 (by decide))
  have s : own_sum c = 23 := by unfold own_sum; rw [g0, g1, g2, g3, g4, g5, g6, g7, g8, g9, g10, g11, g12, g13, g14, g15, g16, g17, g18, g19, g20, g21, g22, g23, g24, g25, g26, g27, g28, g29]; rfl
  rw [own_in1 (by rw [s]; decide)]
  rw [own_n0_g (own_nlt h1 (by decide)) (own_gt h1 (by decide)), own_n1_g (own_nlt h1 (by decide)) (own_gt h1 (by decide)), own_n2_n (fun q => absurd (own_nlt h1 (by decide : (96 : Int32) ≤ (12289 : Int32))) (by rw [q]; decide)), own_n3_g (own_nlt h1 (by decide)) (own_gt h1 (by decide)), own_n4_g (own_nlt h1 (by decide)) (own_gt h1 (by decide)), own_n5_g (own_nlt h1 (by decide)) (own_gt h1 (by decide)), own_n6_g (own_nlt h1 (by decide)) (own_gt h1 (by decide)), own_n7_g (own_nlt h1 (by decide)) (own_gt h1 (by decide)), own_n8_g (own_nlt h1 (by decide)) (own_gt h1 (by decide)), own_n9_g (own_nlt h1 (by decide)) (own_gt h1 (by decide)), own_n10_g (own_nlt h1 (by decide)) (own_gt h1 (by decide)), own_n11_y (own_nlt h1 (by decide)) (own_ngt h2 (by decide))]
theorem own_case24 {c : Int32} (h1 : ¬ c < (55296 : Int32)) (h2 : c < (63744 : Int32)) : own_n0 c = own_in c := by
  have g0 : own_ge c (65 : Int32) = 1 := own_ge1 (own_nlt h1 (by decide))
  have g1 : own_ge c (91 : Int32) = 1 := own_ge1 (own_nlt h1 (by decide))
  have g2 : own_ge c (95 : Int32) = 1 := own_ge1 (own_nlt h1 (by decide))
  have g3 : own_ge c (96 : Int32) = 1 := own_ge1 (own_nlt h1 (by decide))
  have g4 : own_ge c (97 : Int32) = 1 := own_ge1 (own_nlt h1 (by decide))
  have g5 : own_ge c (123 : Int32) = 1 := own_ge1 (own_nlt h1 (by decide))
  have g6 : own_ge c (192 : Int32) = 1 := own_ge1 (own_nlt h1 (by decide))
  have g7 : own_ge c (215 : Int32) = 1 := own_ge1 (own_nlt h1 (by decide))
  have g8 : own_ge c (216 : Int32) = 1 := own_ge1 (own_nlt h1 (by decide))
  have g9 : own_ge c (247 : Int32) = 1 := own_ge1 (own_nlt h1 (by decide))
  have g10 : own_ge c (248 : Int32) = 1 := own_ge1 (own_nlt h1 (by decide))
  have g11 : own_ge c (768 : Int32) = 1 := own_ge1 (own_nlt h1 (by decide))
  have g12 : own_ge c (880 : Int32) = 1 := own_ge1 (own_nlt h1 (by decide))
  have g13 : own_ge c (894 : Int32) = 1 := own_ge1 (own_nlt h1 (by decide))
  have g14 : own_ge c (895 : Int32) = 1 := own_ge1 (own_nlt h1 (by decide))
  have g15 : own_ge c (8192 : Int32) = 1 := own_ge1 (own_nlt h1 (by decide))
  have g16 : own_ge c (8204 : Int32) = 1 := own_ge1 (own_nlt h1 (by decide))
  have g17 : own_ge c (8206 : Int32) = 1 := own_ge1 (own_nlt h1 (by decide))
  have g18 : own_ge c (8304 : Int32) = 1 := own_ge1 (own_nlt h1 (by decide))
  have g19 : own_ge c (8592 : Int32) = 1 := own_ge1 (own_nlt h1 (by decide))
  have g20 : own_ge c (11264 : Int32) = 1 := own_ge1 (own_nlt h1 (by decide))
  have g21 : own_ge c (12272 : Int32) = 1 := own_ge1 (own_nlt h1 (by decide))
  have g22 : own_ge c (12289 : Int32) = 1 := own_ge1 (own_nlt h1 (by decide))
  have g23 : own_ge c (55296 : Int32) = 1 := own_ge1 (own_nlt h1 (by decide))
  have g24 : own_ge c (63744 : Int32) = 0 := own_ge0 (own_lt h2 (by decide))
  have g25 : own_ge c (64976 : Int32) = 0 := own_ge0 (own_lt h2 (by decide))
  have g26 : own_ge c (65008 : Int32) = 0 := own_ge0 (own_lt h2 (by decide))
  have g27 : own_ge c (65534 : Int32) = 0 := own_ge0 (own_lt h2 (by decide))
  have g28 : own_ge c (65536 : Int32) = 0 := own_ge0 (own_lt h2 (by decide))
  have g29 : own_ge c (983040 : Int32) = 0 := own_ge0 (own_lt h2 (by decide))
  have s : own_sum c = 24 := by unfold own_sum; rw [g0, g1, g2, g3, g4, g5, g6, g7, g8, g9, g10, g11, g12, g13, g14, g15, g16, g17, g18, g19, g20, g21, g22, g23, g24, g25, g26, g27, g28, g29]; rfl
  rw [own_in0 (by rw [s]; decide)]
  rw [own_n0_g (own_nlt h1 (by decide)) (own_gt h1 (by decide)), own_n1_g (own_nlt h1 (by decide)) (own_gt h1 (by decide)), own_n2_n (fun q => absurd (own_nlt h1 (by decide : (96 : Int32) ≤ (55296 : Int32))) (by rw [q]; decide)), own_n3_g (own_nlt h1 (by decide)) (own_gt h1 (by decide)), own_n4_g (own_nlt h1 (by decide)) (own_gt h1 (by decide)), own_n5_g (own_nlt h1 (by decide)) (own_gt h1 (by decide)), own_n6_g (own_nlt h1 (by decide)) (own_gt h1 (by decide)), own_n7_g (own_nlt h1 (by decide)) (own_gt h1 (by decide)), own_n8_g (own_nlt h1 (by decide)) (own_gt h1 (by decide)), own_n9_g (own_nlt h1 (by decide)) (own_gt h1 (by decide)), own_n10_g (own_nlt h1 (by decide)) (own_gt h1 (by decide)), own_n11_g (own_nlt h1 (by decide)) (own_gt h1 (by decide)), own_n12_l (own_lt h2 (by decide)), own_n13_l (own_lt h2 (by decide)), own_n14_l (own_lt h2 (by decide))]
theorem own_case25 {c : Int32} (h1 : ¬ c < (63744 : Int32)) (h2 : c < (64976 : Int32)) : own_n0 c = own_in c := by
  have g0 : own_ge c (65 : Int32) = 1 := own_ge1 (own_nlt h1 (by decide))
  have g1 : own_ge c (91 : Int32) = 1 := own_ge1 (own_nlt h1 (by decide))
  have g2 : own_ge c (95 : Int32) = 1 := own_ge1 (own_nlt h1 (by decide))
  have g3 : own_ge c (96 : Int32) = 1 := own_ge1 (own_nlt h1 (by decide))
  have g4 : own_ge c (97 : Int32) = 1 := own_ge1 (own_nlt h1 (by decide))
  have g5 : own_ge c (123 : Int32) = 1 := own_ge1 (own_nlt h1 (by decide))
  have g6 : own_ge c (192 : Int32) = 1 := own_ge1 (own_nlt h1 (by decide))
  have g7 : own_ge c (215 : Int32) = 1 := own_ge1 (own_nlt h1 (by decide))
  have g8 : own_ge c (216 : Int32) = 1 := own_ge1 (own_nlt h1 (by decide))
  have g9 : own_ge c (247 : Int32) = 1 := own_ge1 (own_nlt h1 (by decide))
  have g10 : own_ge c (248 : Int32) = 1 := own_ge1 (own_nlt h1 (by decide))
  have g11 : own_ge c (768 : Int32) = 1 := own_ge1 (own_nlt h1 (by decide))
  have g12 : own_ge c (880 : Int32) = 1 := own_ge1 (own_nlt h1 (by decide))
  have g13 : own_ge c (894 : Int32) = 1 := own_ge1 (own_nlt h1 (by decide))
  have g14 : own_ge c (895 : Int32) = 1 := own_ge1 (own_nlt h1 (by decide))
  have g15 : own_ge c (8192 : Int32) = 1 := own_ge1 (own_nlt h1 (by decide))
  have g16 : own_ge c (8204 : Int32) = 1 := own_ge1 (own_nlt h1 (by decide))
  have g17 : own_ge c (8206 : Int32) = 1 := own_ge1 (own_nlt h1 (by decide))
  have g18 : own_ge c (8304 : Int32) = 1 := own_ge1 (own_nlt h1 (by decide))
  have g19 : own_ge c (8592 : Int32) = 1 := own_ge1 (own_nlt h1 (by decide))
  have g20 : own_ge c (11264 : Int32) = 1 := own_ge1 (own_nlt h1 (by decide))
  have g21 : own_ge c (12272 : Int32) = 1 := own_ge1 (own_nlt h1 (by decide))
  have g22 : own_ge c (12289 : Int32) = 1 := own_ge1 (own_nlt h1 (by decide))
  have g23 : own_ge c (55296 : Int32) = 1 := own_ge1 (own_nlt h1 (by decide))
  have g24 : own_ge c (63744 : Int32) = 1 := own_ge1 (own_nlt h1 (by decide))
  have g25 : own_ge c (64976 : Int32) = 0 := own_ge0 (own_lt h2 (by decide))
  have g26 : own_ge c (65008 : Int32) = 0 := own_ge0 (own_lt h2 (by decide))
  have g27 : own_ge c (65534 : Int32) = 0 := own_ge0 (own_lt h2 (by decide))
  have g28 : own_ge c (65536 : Int32) = 0 := own_ge0 (own_lt h2 (by decide))
  have g29 : own_ge c (983040 : Int32) = 0 := own_ge0 (own_lt h2 (by decide))
  have s : own_sum c = 25 := by unfold own_sum; rw [g0, g1, g2, g3, g4, g5, g6, g7, g8, g9, g10, g11, g12, g13, g14, g15, g16, g17, g18, g19, g20, g21, g22, g23, g24, g25, g26, g27, g28, g29]; rfl
  rw [own_in1 (by rw [s]; decide)]
  rw [own_n0_g (own_nlt h1 (by decide)) (own_gt h1 (by decide)), own_n1_g (own_nlt h1 (by decide)) (own_gt h1 (by decide)), own_n2_n (fun q => absurd (own_nlt h1 (by decide : (96 : Int32) ≤ (63744 : Int32))) (by rw [q]; decide)), own_n3_g (own_nlt h1 (by decide)) (own_gt h1 (by decide)), own_n4_g (own_nlt h1 (by decide)) (own_gt h1 (by decide)), own_n5_g (own_nlt h1 (by decide)) (own_gt h1 (by decide)), own_n6_g (own_nlt h1 (by decide)) (own_gt h1 (by decide)), own_n7_g (own_nlt h1 (by decide)) (own_gt h1 (by decide)), own_n8_g (own_nlt h1 (by decide)) (own_gt h1 (by decide)), own_n9_g (own_nlt h1 (by decide)) (own_gt h1 (by decide)), own_n10_g (own_nlt h1 (by decide)) (own_gt h1 (by decide)), own_n11_g (own_nlt h1 (by decide)) (own_gt h1 (by decide)), own_n12_y (own_nlt h1 (by decide)) (own_ngt h2 (by decide))]
theorem own_case26 {c : Int32} (h1 : ¬ c < (64976 : Int32)) (h2 : c < (65008 : Int32)) : own_n0 c = own_in c := by
  have g0 : own_ge c (65 : Int32) = 1 := own_ge1 (own_nlt h1 (by decide))
  have g1 : own_ge c (91 : Int32) = 1 := own_ge1 (own_nlt h1 (by decide))
  have g2 : own_ge c (95 : Int32) = 1 := own_ge1 (own_nlt h1 (by decide))
  have g3 : own_ge c (96 : Int32) = 1 := own_ge1 (own_nlt h1 (by decide))
  have g4 : own_ge c (97 : Int32) = 1 := own_ge1 (own_nlt h1 (by decide))
  have g5 : own_ge c (123 : Int32) = 1 := own_ge1 (own_nlt h1 (by decide))
  have g6 : own_ge c (192 : Int32) = 1 := own_ge1 (own_nlt h1 (by decide))
  have g7 : own_ge c (215 : Int32) = 1 := own_ge1 (own_nlt h1 (by decide))
  have g8 : own_ge c (216 : Int32) = 1 := own_ge1 (own_nlt h1 (by decide))
  have g9 : own_ge c (247 : Int32) = 1 := own_ge1 (own_nlt h1 (by decide))
  have g10 : own_ge c (248 : Int32) = 1 := own_ge1 (own_nlt h1 (by decide))
  have g11 : own_ge c (768 : Int32) = 1 := own_ge1 (own_nlt h1 (by decide))
  have g12 : own_ge c (880 : Int32) = 1 := own_ge1 (own_nlt h1 (by decide))
  have g13 : own_ge c (894 : Int32) = 1 := own_ge1 (own_nlt h1 (by decide))
  have g14 : own_ge c (895 : Int32) = 1 := own_ge1 (own_nlt h1 (by decide))
  have g15 : own_ge c (8192 : Int32) = 1 := own_ge1 (own_nlt h1 (by decide))
  have g16 : own_ge c (8204 : Int32) = 1 := own_ge1 (own_nlt h1 (by decide))
  have g17 : own_ge c (8206 : Int32) = 1 := own_ge1 (own_nlt h1 (by decide))
  have g18 : own_ge c (8304 : Int32) = 1 := own_ge1 (own_nlt h1 (by decide))
  have g19 : own_ge c (8592 : Int32) = 1 := own_ge1 (own_nlt h1 (by decide))
  have g20 : own_ge c (11264 : Int32) = 1 := own_ge1 (own_nlt h1 (by decide))
  have g21 : own_ge c (12272 : Int32) = 1 := own_ge1 (own_nlt h1 (by decide))
  have g22 : own_ge c (12289 : Int32) = 1 := own_ge1 (own_nlt h1 (by decide))
  have g23 : own_ge c (55296 : Int32) = 1 := own_ge1 (own_nlt h1 (by decide))
  have g24 : own_ge c (63744 : Int32) = 1 := own_ge1 (own_nlt h1 (by decide))
  have g25 : own_ge c (64976 : Int32) = 1 := own_ge1 (own_nlt h1 (by decide))
  have g26 : own_ge c (65008 : Int32) = 0 := own_ge0 (own_lt h2 (by decide))
  have g27 : own_ge c (65534 : Int32) = 0 := own_ge0 (own_lt h2 (by decide))
  have g28 : own_ge c (65536 : Int32) = 0 := own_ge0 (own_lt h2 (by decide))
  have g29 : own_ge c (983040 : Int32) = 0 := own_ge0 (own_lt h2 (by decide))
  have s : own_sum c = 26 := by unfold own_sum; rw [g0, g1, g2, g3, g4, g5, g6, g7, g8, g9, g10, g11, g12, g13, g14, g15, g16, g17, g18, g19, g20, g21, g22, g23, g24, g25, g26, g27, g28, g29]; rfl
  rw [own_in0 (by rw [s]; decide)]
  rw [own_n0_g (own_nlt h1 (by decide)) (own_gt h1 (by decide)), own_n1_g (own_nlt h1 (by decide)) (own_gt h1 (by decide)), own_n2_n (fun q => absurd (own_nlt h1 (by decide : (96 : Int32) ≤ (64976 : Int32))) (by rw [q]; decide)), own_n3_g (own_nlt h1 (by decide)) (own_gt h1 (by decide)), own_n4_g (own_nlt h1 (by decide)) (own_gt h1 (by decide)), own_n5_g (own_nlt h1 (by decide)) (own_gt h1 (by decide)), own_n6_g (own_nlt h1 (by decide)) (own_gt h1 (by decide)), own_n7_g (own_nlt h1 (by decide)) (own_gt h1 (by decide)), own_n8_g (own_nlt h1 (by decide)) (own_gt h1 (by decide)), own_n9_g (own_nlt h1 (by decide)) (own_gt h1 (by decide)), own_n10_g (own_nlt h1 (by decide)) (own_gt h1 (by decide)), own_n11_g (own_nlt h1 (by decide)) (own_gt h1 (by decide)), own_n12_g (own_nlt h1 (by decide)) (own_gt h1 (by decide)), own_n13_l (own_lt h2 (by decide)), own_n14_l (own_lt h2 (by decide))]
theorem own_case27 {c : Int32} (h1 : ¬ c < (65008 : Int32)) (h2 : c < (65534 : Int32)) : own_n0 c = own_in c := by
  have g0 : own_ge c (65 : Int32) = 1 := own_ge1 (own_nlt h1 (by decide))
  have g1 : own_ge c (91 : Int32) = 1 := own_ge1 (own_nlt h1 (by decide))
  have g2 : own_ge c (95 : Int32) = 1 := own_ge1 (own_nlt h1 (by decide))
  have g3 : own_ge c (96 : Int32) = 1 := own_ge1 (own_nlt h1 (by decide))
  have g4 : own_ge c (97 : Int32) = 1 := own_ge1 (own_nlt h1 (by decide))
  have g5 : own_ge c (123 : Int32) = 1 := own_ge1 (own_nlt h1 (by decide))
  have g6 : own_ge c (192 : Int32) = 1 := own_ge1 (own_nlt h1 (by decide))
  have g7 : own_ge c (215 : Int32) = 1 := own_ge1 (own_nlt h1 (by decide))
  have g8 : own_ge c (216 : Int32) = 1 := own_ge1 (own_nlt h1 (by decide))
  have g9 : own_ge c (247 : Int32) = 1 := own_ge1 (own_nlt h1 (by decide))
  have g10 : own_ge c (248 : Int32) = 1 := own_ge1 (own_nlt h1 (by decide))
  have g11 : own_ge c (768 : Int32) = 1 := own_ge1 (own_nlt h1 (by decide))
  have g12 : own_ge c (880 : Int32) = 1 := own_ge1 (own_nlt h1 (by decide))
  have g13 : own_ge c (894 : Int32) = 1 := own_ge1 (own_nlt h1 (by decide))
  have g14 : own_ge c (895 : Int32) = 1 := own_ge1 (own_nlt h1 (by decide))
  have g15 : own_ge c (8192 : Int32) = 1 := own_ge1 (own_nlt h1 (by decide))
  have g16 : own_ge c (8204 : Int32) = 1 := own_ge1 (own_nlt h1 (by decide))
  have g17 : own_ge c (8206 : Int32) = 1 := own_ge1 (own_nlt h1 (by decide))
  have g18 : own_ge c (8304 : Int32) = 1 := own_ge1 (own_nlt h1 (by decide))
  have g19 : own_ge c (8592 : Int32) = 1 := own_ge1 (own_nlt h1 (by decide))
  have g20 : own_ge c (11264 : Int32) = 1 := own_ge1 (own_nlt h1 (by decide))
  have g21 : own_ge c (12272 : Int32) = 1 := own_ge1 (own_nlt h1 (by decide))
  have g22 : own_ge c (12289 : Int32) = 1 := own_ge1 (own_nlt h1 (by decide))
  have g23 : own_ge c (55296 : Int32) = 1 := own_ge1 (own_nlt h1 (by decide))
  have g24 : own_ge c (63744 : Int32) = 1 := own_ge1 (own_nlt h1 (by decide))
  have g25 : own_ge c (64976 : Int32) = 1 := own_ge1 (own_nlt h1 (by decide))
  have g26 : own_ge c (65008 : Int32) = 1 := own_ge1 (own_nlt h1 (by decide))
  have g27 : own_ge c (65534 : Int32) = 0 := own_ge0 (own_lt h2 (by decide))
  have g28 : own_ge c (65536 : Int32) = 0 := own_ge0 (own_lt h2 (by decide))
  have g29 : own_ge c (983040 : Int32) = 0 := own_ge0 (own_lt h2 (by decide))
  have s : own_sum c = 27 := by unfold own_sum; rw [g0, g1, g2, g3, g4, g5, g6, g7, g8, g9, g10, g11, g12, g13, g14, g15, g16, g17, g18, g19, g20, g21, g22, g23, g24, g25, g26, g27, g28, g29]; rfl
  rw [own_in1 (by rw [s]; decide)]
  rw [own_n0_g (own_nlt h1 (by decide)) (own_gt h1 (by decide)), own_n1_g (own_nlt h1 (by decide)) (own_gt h1 (by decide)), own_n2_n (fun q => absurd (own_nlt h1 (by decide : (96 : Int32) ≤ (65008 : Int32))) (by rw [q]; decide)), own_n3_g (own_nlt h1 (by decide)) (own_gt h1 (by decide)), own_n4_g (own_nlt h1 (by decide)) (own_gt h1 (by decide)), own_n5_g (own_nlt h1 (by decide)) (own_gt h1 (by decide)), own_n6_g (own_nlt h1 (by decide)) (own_gt h1 (by decide)), own_n7_g (own_nlt h1 (by decide)) (own_gt h1 (by decide)), own_n8_g (own_nlt h1 (by decide)) (own_gt h1 (by decide)), own_n9_g (own_nlt h1 (by decide)) (own_gt h1 (by decide)), own_n10_g (own_nlt h1 (by decide)) (own_gt h1 (by decide)), own_n11_g (own_nlt h1 (by decide)) (own_gt h1 (by decide)), own_n12_g (own_nlt h1 (by decide)) (own_gt h1 (by decide)), own_n13_y (own_nlt h1 (by decide)) (own_ngt h2 (by decide))]
theorem own_case28 {c : Int32} (h1 : ¬ c < (65534 : Int32)) (h2 : c < (65536 : Int32)) : own_n0 c = own_in c := by
  have g0 : own_ge c (65 : Int32) = 1 := own_ge1 (own_nlt h1 (by decide))
  have g1 : own_ge c (91 : Int32) = 1 := own_ge1 (own_nlt h1 (by decide))
  have g2 : own_ge c (95 : Int32) = 1 := own_ge1 (own_nlt h1 (by decide))
  have g3 : own_ge c (96 : Int32) = 1 := own_ge1 (own_nlt h1 (by decide))
  have g4 : own_ge c (97 : Int32) = 1 := own_ge1 (own_nlt h1 (by decide))
  have g5 : own_ge c (123 : Int32) = 1 := own_ge1 (own_nlt h1 (by decide))
  have g6 : own_ge c (192 : Int32) = 1 := own_ge1 (own_nlt h1 (by decide))
  have g7 : own_ge c (215 : Int32) = 1 := own_ge1 (own_nlt h1 (by decide))
  have g8 : own_ge c (216 : Int32) = 1 := own_ge1 (own_nlt h1 (by decide))
  have g9 : own_ge c (247 : Int32) = 1 := own_ge1 (own_nlt h1 (by decide))
  have g10 : own_ge c (248 : Int32) = 1 := own_ge1 (own_nlt h1 (by decide))
  have g11 : own_ge c (768 : Int32) = 1 := own_ge1 (own_nlt h1 (by decide))
  have g12 : own_ge c (880 : Int32) = 1 := own_ge1 (own_nlt h1 (by decide))
  have g13 : own_ge c (894 : Int32) = 1 := own_ge1 (own_nlt h1 (by decide))
  have g14 : own_ge c (895 : Int32) = 1 := own_ge1 (own_nlt h1 (by decide))
  have g15 : own_ge c (8192 : Int32) = 1 := own_ge1 (own_nlt h1 (by decide))
  have g16 : own_ge c (8204 : Int32) = 1 := own_ge1 (own_nlt h1 (by decide))
  have g17 : own_ge c (8206 : Int32) = 1 := own_ge1 (own_nlt h1 (by decide))
  have g18 : own_ge c (8304 : Int32) = 1 := own_ge1 (own_nlt h1 (by decide))
  have g19 : own_ge c (8592 : Int32) = 1 := own_ge1 (own_nlt h1 (by decide))
  have g20 : own_ge c (11264 : Int32) = 1 := own_ge1 (own_nlt h1 (by decide))
  have g21 : own_ge c (12272 : Int32) = 1 := own_ge1 (own_nlt h1 (by decide))
  have g22 : own_ge c (12289 : Int32) = 1 := own_ge1 (own_nlt h1 (by decide))
  have g23 : own_ge c (55296 : Int32) = 1 := own_ge1 (own_nlt h1 (by decide))
  have g24 : own_ge c (63744 : Int32) = 1 := own_ge1 (own_nlt h1 (by decide))
  have g25 : own_ge c (64976 : Int32) = 1 := own_ge1 (own_nlt h1 (by decide))
  have g26 : own_ge c (65008 : Int32) = 1 := own_ge1 (own_nlt h1 (by decide))
  have g27 : own_ge c (65534 : Int32) = 1 := own_ge1 (own_nlt h1 (by decide))
  have g28 : own_ge c (65536 : Int32) = 0 := own_ge0 (own_lt h2 (by decide))
  have g29 : own_ge c (983040 : Int32) = 0 := own_ge0 (own_lt h2 (by decide))
  have s : own_sum c = 28 := by unfold own_sum; rw [g0, g1, g2, g3, g4, g5, g6, g7, g8, g9, g10, g11, g12, g13, g14, g15, g16, g17, g18, g19, g20, g21, g22, g23, g24, g25, g26, g27, g28, g29]; rfl
  rw [own_in0 (by rw [s]; decide)]
  rw [own_n0_g (own_nlt h1 (by decide)) (own_gt h1 (by decide)), own_n1_g (own_nlt h1 (by decide)) (own_gt h1 (by decide)), own_n2_n (fun q => absurd (own_nlt h1 (by decide : (96 : Int32) ≤ (65534 : Int32))) (by rw [q]; decide)), own_n3_g (own_nlt h1 (by decide)) (own_gt h1 (by decide)), own_n4_g (own_nlt h1 (by decide)) (own_gt h1 (by decide)), own_n5_g (own_nlt h1 (by decide)) (own_gt h1 (by decide)), own_n6_g (own_nlt h1 (by decide)) (own_gt h1 (by decide)), own_n7_g (own_nlt h1 (by decide)) (own_gt h1 (by decide)), own_n8_g (own_nlt h1 (by decide)) (own_gt h1 (by decide)), own_n9_g (own_nlt h1 (by decide)) (own_gt h1 (by decide)), own_n10_g (own_nlt h1 (by decide)) (own_gt h1 (by decide)), own_n11_g (own_nlt h1 (by decide)) (own_gt h1 (by decide)), own_n12_g (own_nlt h1 (by decide)) (own_gt h1 (by decide)), own_n13_g (own_nlt h1 (by decide)) (own_gt h1 (by decide)), own_n14_l (own_lt h2 (by decide))]
theorem own_case29 {c : Int32} (h1 : ¬ c < (65536 : Int32)) (h2 : c < (983040 : Int32)) : own_n0 c = own_in c := by
  have g0 : own_ge c (65 : Int32) = 1 := own_ge1 (own_nlt h1 (by decide))
  have g1 : own_ge c (91 : Int32) = 1 := own_ge1 (own_nlt h1 (by decide))
  have g2 : own_ge c (95 : Int32) = 1 := own_ge1 (own_nlt h1 (by decide))
  have g3 : own_ge c (96 : Int32) = 1 := own_ge1 (own_nlt h1 (by decide))
  have g4 : own_ge c (97 : Int32) = 1 := own_ge1 (own_nlt h1 (by decide))
  have g5 : own_ge c (123 : Int32) = 1 := own_ge1 (own_nlt h1 (by decide))
  have g6 : own_ge c (192 : Int32) = 1 := own_ge1 (own_nlt h1 (by decide))
  have g7 : own_ge c (215 : Int32) = 1 := own_ge1 (own_nlt h1 (by decide))
  have g8 : own_ge c (216 : Int32) = 1 := own_ge1 (own_nlt h1 (by decide))
  have g9 : own_ge c (247 : Int32) = 1 := own_ge1 (own_nlt h1 (by decide))
  have g10 : own_ge c (248 : Int32) = 1 := own_ge1 (own_nlt h1 (by decide))
  have g11 : own_ge c (768 : Int32) = 1 := own_ge1 (own_nlt h1 (by decide))
  have g12 : own_ge c (880 : Int32) = 1 := own_ge1 (own_nlt h1 (by decide))
  have g13 : own_ge c (894 : Int32) = 1 := own_ge1 (own_nlt h1 (by decide))
  have g14 : own_ge c (895 : Int32) = 1 := own_ge1 (own_nlt h1 (by decide))
  have g15 : own_ge c (8192 : Int32) = 1 := own_ge1 (own_nlt h1 (by decide))
  have g16 : own_ge c (8204 : Int32) = 1 := own_ge1 (own_nlt h1 (by decide))
  have g17 : own_ge c (8206 : Int32) = 1 := own_ge1 (own_nlt h1 (by decide))
  have g18 : own_ge c (8304 : Int32) = 1 := own_ge1 (own_nlt h1 (by decide))
  have g19 : own_ge c (8592 : Int32) = 1 := own_ge1 (own_nlt h1 (by decide))
  have g20 : own_ge c (11264 : Int32) = 1 := own_ge1 (own_nlt h1 (by decide))
  have g21 : own_ge c (12272 : Int32) = 1 := own_ge1 (own_nlt h1 (by decide))
  have g22 : own_ge c (12289 : Int32) = 1 := own_ge1 (own_nlt h1 (by decide))
  have g23 : own_ge c (55296 : Int32) = 1 := own_ge1 (own_nlt h1 (by decide))
  have g24 : own_ge c (63744 : Int32) = 1 := own_ge1 (own_nlt h1 (by decide))
  have g25 : own_ge c (64976 : Int32) = 1 := own_ge1 (own_nlt h1 (by decide))
  have g26 : own_ge c (65008 : Int32) = 1 := own_ge1 (own_nlt h1 (by decide))
  have g27 : own_ge c (65534 : Int32) = 1 := own_ge1 (own_nlt h1 (by decide))
  have g28 : own_ge c (65536 : Int32) = 1 := own_ge1 (own_nlt h1 (by decide))
  have g29 : own_ge c (983040 : Int32) = 0 := own_ge0 (own_lt h2 (by decide))
  have s : own_sum c = 29 := by unfold own_sum; rw [g0, g1, g2, g3, g4, g5, g6, g7, g8, g9, g10, g11, g12, g13, g14, g15, g16, g17, g18, g19, g20, g21, g22, g23, g24, g25, g26, g27, g28, g29]; rfl
  rw [own_in1 (by rw [s]; decide)]
  rw [own_n0_g (own_nlt h1 (by decide)) (own_gt h1 (by decide)), own_n1_g (own_nlt h1 (by decide)) (own_gt h1 (by decide)), own_n2_n (fun q => absurd (own_nlt h1 (by decide : (96 : Int32) ≤ (65536 : Int32))) (by rw [q]; decide)), own_n3_g (own_nlt h1 (by decide)) (own_gt h1 (by decide)), own_n4_g (own_nlt h1 (by decide)) (own_gt h1 (by decide)), own_n5_g (own_nlt h1 (by decide)) (own_gt h1 (by decide)), own_n6_g (own_nlt h1 (by decide)) (own_gt h1 (by decide)), own_n7_g (own_nlt h1 (by decide)) (own_gt h1 (by decide)), own_n8_g (own_nlt h1 (by decide)) (own_gt h1 (by decide)), own_n9_g (own_nlt h1 (by decide)) (own_gt h1 (by decide)), own_n10_g (own_nlt h1 (by decide)) (own_gt h1 (by decide)), own_n11_g (own_nlt h1 (by decide)) (own_gt h1 (by decide)), own_n12_g (own_nlt h1 (by decide)) (own_gt h1 (by decide)), own_n13_g (own_nlt h1 (by decide)) (own_gt h1 (by decide)), own_n14_y (own_nlt h1 (by decide)) (own_ngt h2 (by decide))]
theorem own_case30 {c : Int32} (h1 : ¬ c < (983040 : Int32)) : own_n0 c = own_in c := by
  have g0 : own_ge c (65 : Int32) = 1 := own_ge1 (own_nlt h1 (by decide))
  have g1 : own_ge c (91 : Int32) = 1 := own_ge1 (own_nlt h1 (by decide))
  have g2 : own_ge c (95 : Int32) = 1 := own_ge1 (own_nlt h1 (by decide))
  have g3 : own_ge c (96 : Int32) = 1 := own_ge1 (own_nlt h1 (by decide))
  have g4 : own_ge c (97 : Int32) = 1 := own_ge1 (own_nlt h1 (by decide))
  have g5 : own_ge c (123 : Int32) = 1 := own_ge1 (own_nlt h1 (by decide))
  have g6 : own_ge c (192 : Int32) = 1 := own_ge1 (own_nlt h1 (by decide))
  have g7 : own_ge c (215 : Int32) = 1 := own_ge1 (own_nlt h1 (by decide))
  have g8 : own_ge c (216 : Int32) = 1 := own_ge1 (own_nlt h1 (by decide))
  have g9 : own_ge c (247 : Int32) = 1 := own_ge1 (own_nlt h1 (by decide))
  have g10 : own_ge c (248 : Int32) = 1 := own_ge1 (own_nlt h1 (by decide))
  have g11 : own_ge c (768 : Int32) = 1 := own_ge1 (own_nlt h1 (by decide))
  have g12 : own_ge c (880 : Int32) = 1 := own_ge1 (own_nlt h1 (by decide))
  have g13 : own_ge c (894 : Int32) = 1 := own_ge1 (own_nlt h1 (by decide))
  have g14 : own_ge c (895 : Int32) = 1 := own_ge1 (own_nlt h1 (by decide))
  have g15 : own_ge c (8192 : Int32) = 1 := own_ge1 (own_nlt h1 (by decide))
  have g16 : own_ge c (8204 : Int32) = 1 := own_ge1 (own_nlt h1 (by decide))
  have g17 : own_ge c (8206 : Int32) = 1 := own_ge1 (own_nlt h1 (by decide))
  have g18 : own_ge c (8304 : Int32) = 1 := own_ge1 (own_nlt h1 (by decide))
  have g19 : own_ge c (8592 : Int32) = 1 := own_ge1 (own_nlt h1 (by decide))
  have g20 : own_ge c (11264 : Int32) = 1 := own_ge1 (own_nlt h1 (by decide))
  have g21 : own_ge c (12272 : Int32) = 1 := own_ge1 (own_nlt h1 (by decide))
  have g22 : own_ge c (12289 : Int32) = 1 := own_ge1 (own_nlt h1 (by decide))
  have g23 : own_ge c (55296 : Int32) = 1 := own_ge1 (own_nlt h1 (by decide))
  have g24 : own_ge c (63744 : Int32) = 1 := own_ge1 (own_nlt h1 (by decide))
  have g25 : own_ge c (64976 : Int32) = 1 := own_ge1 (own_nlt h1 (by decide))
  have g26 : own_ge c (65008 : Int32) = 1 := own_ge1 (own_nlt h1 (by decide))
  have g27 : own_ge c (65534 : Int32) = 1 := own_ge1 (own_nlt h1 (by decide))
  have g28 : own_ge c (65536 : Int32) = 1 := own_ge1 (own_nlt h1 (by decide))
  have g29 : own_ge c (983040 : Int32) = 1 := own_ge1 (own_nlt h1 (by decide))
  have s : own_sum c = 30 := by unfold own_sum; rw [g0, g1, g2, g3, g4, g5, g6, g7, g8, g9, g10, g11, g12, g13, g14, g15, g16, g17, g18, g19, g20, g21, g22, g23, g24, g25, g26, g27, g28, g29]; rfl
  rw [own_in0 (by rw [s]; decide)]
  rw [own_n0_g (own_nlt h1 (by decide)) (own_gt h1 (by decide)), own_n1_g (own_nlt h1 (by decide)) (own_gt h1 (by decide)), own_n2_n (fun q => absurd (own_nlt h1 (by decide : (96 : Int32) ≤ (983040 : Int32))) (by rw [q]; decide)), own_n3_g (own_nlt h1 (by decide)) (own_gt h1 (by decide)), own_n4_g (own_nlt h1 (by decide)) (own_gt h1 (by decide)), own_n5_g (own_nlt h1 (by decide)) (own_gt h1 (by decide)), own_n6_g (own_nlt h1 (by decide)) (own_gt h1 (by decide)), own_n7_g (own_nlt h1 (by decide)) (own_gt h1 (by decide)), own_n8_g (own_nlt h1 (by decide)) (own_gt h1 (by decide)), own_n9_g (own_nlt h1 (by decide)) (own_gt h1 (by decide)), own_n10_g (own_nlt h1 (by decide)) (own_gt h1 (by decide)), own_n11_g (own_nlt h1 (by decide)) (own_gt h1 (by decide)), own_n12_g (own_nlt h1 (by decide)) (own_gt h1 (by decide)), own_n13_g (own_nlt h1 (by decide)) (own_gt h1 (by decide)), own_n14_g (own_nlt h1 (by decide)) (own_gt h1 (by decide))]
theorem own_same (c : Int32) : own_n0 c = own_in c := by
  by_cases h0 : c < (65 : Int32)
  · exact own_case0 h0
  by_cases h1 : c < (91 : Int32)
  · exact own_case1 h0 h1
  by_cases h2 : c < (95 : Int32)
  · exact own_case2 h1 h2
  by_cases h3 : c < (96 : Int32)
  · exact own_case3 h2 h3
  by_cases h4 : c < (97 : Int32)
  · exact own_case4 h3 h4
  by_cases h5 : c < (123 : Int32)
  · exact own_case5 h4 h5
  by_cases h6 : c < (192 : Int32)
  · exact own_case6 h5 h6
  by_cases h7 : c < (215 : Int32)
  · exact own_case7 h6 h7
  by_cases h8 : c < (216 : Int32)
  · exact own_case8 h7 h8
  by_cases h9 : c < (247 : Int32)
  · exact own_case9 h8 h9
  by_cases h10 : c < (248 : Int32)
  · exact own_case10 h9 h10
  by_cases h11 : c < (768 : Int32)
  · exact own_case11 h10 h11
  by_cases h12 : c < (880 : Int32)
  · exact own_case12 h11 h12
  by_cases h13 : c < (894 : Int32)
  · exact own_case13 h12 h13
  by_cases h14 : c < (895 : Int32)
  · exact own_case14 h13 h14
  by_cases h15 : c < (8192 : Int32)
  · exact own_case15 h14 h15
  by_cases h16 : c < (8204 : Int32)
  · exact own_case16 h15 h16
  by_cases h17 : c < (8206 : Int32)
  · exact own_case17 h16 h17
  by_cases h18 : c < (8304 : Int32)
  · exact own_case18 h17 h18
  by_cases h19 : c < (8592 : Int32)
  · exact own_case19 h18 h19
  by_cases h20 : c < (11264 : Int32)
  · exact own_case20 h19 h20
  by_cases h21 : c < (12272 : Int32)
  · exact own_case21 h20 h21
  by_cases h22 : c < (12289 : Int32)
  · exact own_case22 h21 h22
  by_cases h23 : c < (55296 : Int32)
  · exact own_case23 h22 h23
  by_cases h24 : c < (63744 : Int32)
  · exact own_case24 h23 h24
  by_cases h25 : c < (64976 : Int32)
  · exact own_case25 h24 h25
  by_cases h26 : c < (65008 : Int32)
  · exact own_case26 h25 h26
  by_cases h27 : c < (65534 : Int32)
  · exact own_case27 h26 h27
  by_cases h28 : c < (65536 : Int32)
  · exact own_case28 h27 h28
  by_cases h29 : c < (983040 : Int32)
  · exact own_case29 h28 h29
  exact own_case30 h29
def own_tab : List Int32 := [65, 91, 95, 96, 97, 123, 192, 215, 216, 247, 248, 768, 880, 894, 895, 8192, 8204, 8206, 8304, 8592, 11264, 12272, 12289, 55296, 63744, 64976, 65008, 65534, 65536, 983040]
def own_b (j : Nat) : Int32 := own_tab.getD j 0
theorem own_ush1 (x : Int32) : 0 ≤ (Jvm.Free.XT.ushr x (1 : Int32)).toInt := by
  have e : (Jvm.Free.XT.ushr x (1 : Int32)) = (x.toUInt32 >>> (1 : UInt32)).toInt32 := rfl
  have hb : (x.toUInt32 >>> (1 : UInt32)).toNat = x.toUInt32.toNat / 2 := by rw [UInt32.toNat_shiftRight]; simp [Nat.shiftRight_eq_div_pow]
  have hl : x.toUInt32.toNat < 2 ^ 32 := x.toUInt32.toNat_lt
  have e2 : (x.toUInt32 >>> (1 : UInt32)).toInt32.toInt = (x.toUInt32 >>> (1 : UInt32)).toBitVec.toInt := rfl
  rw [e, e2, BitVec.toInt_eq_toNat_of_lt (by have q : (x.toUInt32 >>> (1 : UInt32)).toBitVec.toNat = x.toUInt32.toNat / 2 := hb; omega)]
  omega
theorem own_idx (x : Int32) : ¬ ((Jvm.Free.XT.ushr x (1 : Int32)) % (30 : Int32)) < (0 : Int32) ∧ ((Jvm.Free.XT.ushr x (1 : Int32)) % (30 : Int32)).toNatClampNeg < 30 := by
  have e0 : (0 : Int32).toInt = 0 := rfl
  have e30 : (30 : Int32).toInt = 30 := rfl
  have u : 0 ≤ (Jvm.Free.XT.ushr x (1 : Int32)).toInt := own_ush1 x
  have r : ((Jvm.Free.XT.ushr x (1 : Int32)) % (30 : Int32)).toInt = (Jvm.Free.XT.ushr x (1 : Int32)).toInt % (30 : Int32).toInt := Jvm.Kit.i32_rem_nonneg u
  rw [e30] at r
  generalize Jvm.Free.XT.ushr x (1 : Int32) % (30 : Int32) = j at *
  refine ⟨by rw [Int32.lt_iff_toInt_lt]; omega, ?_⟩
  show j.toInt.toNat < 30
  omega
/-- the array at a: thirty ints, the first n as the table has them -/
def own_arr (Z : State) (h : Heap) (a : Addr) (n : Nat) : Prop := ∃ c : Cell, Arr Z h a c .int ∧ c.slots.size = 30 ∧ ∀ j, j < n → c.slots[j]? = some (.int (own_b j))
theorem own_arr_new {Z : State} {h : Heap} {a : Addr} {k : ClassId} (A : Arr Z h a (newA k .int (30 : Int32)) .int) : own_arr Z h a 0 := ⟨_, A, sz_new _ _ _, fun j q => absurd q (Nat.not_lt_zero _)⟩
theorem own_arr_put {Z : State} {h h' : Heap} {a : Addr} {c : Cell} {n : Nat} (A : Arr Z h a c .int) (S : c.slots.size = 30) (H : ∀ j, j < n → c.slots[j]? = some (.int (own_b j))) {i : Nat} {v : Value} (W : Wr h h' a i v) (hi : i = n) (hv : v = .int (own_b n)) (hn : n < 30) : own_arr Z h' a (n + 1) := by
  subst hi hv
  refine ⟨_, A.same W, by rw [sz_set]; exact S, fun j q => ?_⟩
  show (c.slots.setIfInBounds i (.int (own_b i)))[j]? = _
  by_cases e : i = j
  · subst e; rw [Array.getElem?_setIfInBounds_self_of_lt (by omega)]
  · rw [Array.getElem?_setIfInBounds_ne e]; exact H j (by omega)
/-- from S the run comes to a return at which R holds -/
def Goes (p : Program) (e : Env) (below : List Frame) (R : State → Outcome → Prop) (S : State) : Prop := ∃ s₂ o, Steps p.tables e below S s₂ ∧ s₂.status = .running ∧ Ended s₂ below o ∧ R s₂ o
theorem Goes.step {p : Program} {e : Env} {below : List Frame} {R : State → Outcome → Prop} {S S' : State} (h : ∀ t, Steps p.tables e below S' t → Steps p.tables e below S t) (g : Goes p e below R S') : Goes p e below R S := by
  obtain ⟨s₂, o, h1, h2⟩ := g
  exact ⟨s₂, o, h _ h1, h2⟩
theorem d1_0 : decode method_3_code 0 = .ok (.iload_n 0, 1) := by decide +kernel
theorem d1_1 : decode method_3_code 1 = .ok (.iload_n 1, 1) := by decide +kernel
theorem d1_2 : decode method_3_code 2 = .ok (.if_icmp .lt 7, 3) := by decide +kernel
theorem d1_5 : decode method_3_code 5 = .ok (.iconst 1, 1) := by decide +kernel
theorem d1_6 : decode method_3_code 6 = .ok (.goto 4, 3) := by decide +kernel
theorem d1_9 : decode method_3_code 9 = .ok (.iconst 0, 1) := by decide +kernel
theorem d1_10 : decode method_3_code 10 = .ok (.ireturn, 1) := by decide +kernel
theorem pn_1 : plainName "com/example/sapwood/sapwood/query/LexerIsNameStartPinLaw" = true := by first | (simp [plainName, overriddenIn]; done) | decide +kernel
theorem pd_1 : parseMethodDescriptor "(II)I" = some ⟨[.int, .int], some .int⟩ := by decide +kernel
theorem ef_1 (m : MethodId) (y0 : Int32) (y1 : Int32) : entryFrame m #[(.int y0), (.int y1)] 2 = mkF m 0 #[.val (.int y0), .val (.int y1)] [] := by first | (simp [entryFrame, mkF, argsToLocals, Value.category]; done) | rfl
def Q1 (Z : State) (p1 : Int32) (p2 : Int32) (h0 : Heap) (n0 : Nat) (v : Option Value) (h : Heap) (L : List Loc) : Prop := v = some (.int (own_ge p1 p2)) ∧ Fr n0 L ∧ h = h0
def R1 (Z : State) (p1 : Int32) (p2 : Int32) (h0 : Heap) (n0 : Nat) (U : State) (U' : State) (o : Outcome) : Prop := ∃ v L, o = .returned v ∧ Q1 Z p1 p2 h0 n0 v U'.heap L ∧ FrameEnd U o U' L ({ frames := 0, cells := 0, slots := 0, locals := 0 } : Room).cells ({ frames := 0, cells := 0, slots := 0, locals := 0 } : Room).slots
set_option maxRecDepth 65536 in
set_option maxHeartbeats 40000000 in
theorem rm1 (l : Launch) (Z : State) (a0 : Array Value) (hw : ∀ d ∈ tables_1, d.before a0 Z = true) (ws : List Jvm.Cond) (p1 : Int32) (p2 : Int32) (h0 : Heap) (n0 : Nat) (Z0 : n0 ≤ h0.size)  :
    MetFree l (⟨"com/example/sapwood/sapwood/query/LexerIsNameStartPinLaw", "ge", "(II)I"⟩ : MethodName) (head1 (Jvm.Cond.code (⟨"com/example/sapwood/sapwood/query/LexerIsNameStartPinLaw", "ge", "(II)I"⟩ : MethodName) method_3_code 2 (some .int) :: ws) ({ frames := 0, cells := 0, slots := 0, locals := 0 } : Room)) (fun a U => a = #[(.int p1), (.int p2)] ∧ Z.Warmed39 U.vm ∧ U.heap = h0) (fun _ _ _ _ _ => True) (fun _ U o U' => ∃ v L, o = .returned v ∧ Q1 Z p1 p2 h0 n0 v U'.heap L ∧ FrameEnd U o U' L ({ frames := 0, cells := 0, slots := 0, locals := 0 } : Room).cells ({ frames := 0, cells := 0, slots := 0, locals := 0 } : Room).slots) := by
  refine MetFree.of_bodySF (plainFor_of_name pn_1) hisR ?_
  intro p e s m args below meth c s₁ Bd hml0 hP hK
  obtain ⟨rfl, hZ, hh⟩ := hP
  have hx := Bd.exec
  have hby := Bd.bytes
  have hml : c.maxLocals = 2 := hml0
  have hown : s.vm.findClass "com/example/sapwood/sapwood/query/LexerIsNameStartPinLaw" = some m.cls := findClass_of_methodNamed Bd.named
  have hnm := (name_of_methodNamed Bd.named Bd.method).1
  have X0 : Stand p l e ({ frames := 0, cells := 0, slots := 0, locals := 0 } : Room) s m #[(.int p1), (.int p2)] below meth c s₁ [] 0 0 := Stand.of_body Bd
  have e0 : s₁.heap = h0 := by rw [← hh, Bd.state]; rfl
  have N0 := Fr.nil n0
  show Goes p e below (R1 Z p1 p2 h0 n0 s) (s₁.setTop (entryFrame m #[(.int p1), (.int p2)] 2))
  refine Goes.step (S' := s₁.setTop (mkF m 0 #[.val (.int p1), .val (.int p2)] [])) (fun t k => castTop (ef_1 m p1 p2) k) ?_
  refine Goes.step (S' := s₁.setTop (mkF m 1 #[.val (.int p1), .val (.int p2)] [(.int p1)])) (fun t k => XS.iloadN X0.here hx rfl (hb hby d1_0) rfl k) ?_
  refine Goes.step (S' := s₁.setTop (mkF m 2 #[.val (.int p1), .val (.int p2)] [(.int p2), (.int p1)])) (fun t k => XS.iloadN X0.here hx rfl (hb hby d1_1) rfl k) ?_
  by_cases c1 : p1 < p2
  · refine Goes.step (S' := s₁.setTop (mkF m 9 #[.val (.int p1), .val (.int p2)] [])) (fun t k => XS.icmpYes X0.here hx rfl (pc0 := 2) (pc' := 9) rfl (hb hby d1_2) rfl (tlt c1).1 (by decide) (by decide) k) ?_
    refine Goes.step (S' := s₁.setTop (mkF m 10 #[.val (.int p1), .val (.int p2)] [(.int (0 : Int32))])) (fun t k => XS.iconst X0.here hx rfl (hb hby d1_9) k) ?_
    obtain ⟨fs, hr, hrun, hended, hW, hsame⟩ := X0.leave (v := some (.int (0 : Int32))) (fun h => by rw [Bd.returns] at h; cases h)
    exact ⟨_, _, retI X0 hx Bd.returns (hb hby d1_10) hr, hrun, hended, _, _, rfl, ⟨by rw [own_ge0 c1], N0, e0⟩, ⟨_, rfl⟩, hW, hsame.mono (by decide) (by decide)⟩
  · refine Goes.step (S' := s₁.setTop (mkF m 5 #[.val (.int p1), .val (.int p2)] [])) (fun t k => XS.icmpNo X0.here hx rfl (hb hby d1_2) rfl (flt c1).1 k) ?_
    refine Goes.step (S' := s₁.setTop (mkF m 6 #[.val (.int p1), .val (.int p2)] [(.int (1 : Int32))])) (fun t k => XS.iconst X0.here hx rfl (hb hby d1_5) k) ?_
    refine Goes.step (S' := s₁.setTop (mkF m 10 #[.val (.int p1), .val (.int p2)] [(.int (1 : Int32))])) (fun t k => XS.goto X0.here hx rfl (pc0 := 6) (pc' := 10) rfl (hb hby d1_6) (by decide) (by decide) k) ?_
    obtain ⟨fs, hr, hrun, hended, hW, hsame⟩ := X0.leave (v := some (.int (1 : Int32))) (fun h => by rw [Bd.returns] at h; cases h)
    exact ⟨_, _, retI X0 hx Bd.returns (hb hby d1_10) hr, hrun, hended, _, _, rfl, ⟨by rw [own_ge1 c1], N0, e0⟩, ⟨_, rfl⟩, hW, hsame.mono (by decide) (by decide)⟩
theorem d2_0 : decode method_4_code 0 = .ok (.iload_n 0, 1) := by decide +kernel
theorem d2_1 : decode method_4_code 1 = .ok (.bipush 65, 2) := by decide +kernel
theorem d2_3 : decode method_4_code 3 = .ok (.invokestatic 25, 3) := by decide +kernel
theorem d2_6 : decode method_4_code 6 = .ok (.iload_n 0, 1) := by decide +kernel
theorem d2_7 : decode method_4_code 7 = .ok (.bipush 91, 2) := by decide +kernel
theorem d2_9 : decode method_4_code 9 = .ok (.invokestatic 25, 3) := by decide +kernel
theorem d2_12 : decode method_4_code 12 = .ok (.iadd, 1) := by decide +kernel
theorem d2_13 : decode method_4_code 13 = .ok (.iload_n 0, 1) := by decide +kernel
theorem d2_14 : decode method_4_code 14 = .ok (.bipush 95, 2) := by decide +kernel
theorem d2_16 : decode method_4_code 16 = .ok (.invokestatic 25, 3) := by decide +kernel
theorem d2_19 : decode method_4_code 19 = .ok (.iadd, 1) := by decide +kernel
theorem d2_20 : decode method_4_code 20 = .ok (.iload_n 0, 1) := by decide +kernel
theorem d2_21 : decode method_4_code 21 = .ok (.bipush 96, 2) := by decide +kernel
theorem d2_23 : decode method_4_code 23 = .ok (.invokestatic 25, 3) := by decide +kernel
theorem d2_26 : decode method_4_code 26 = .ok (.iadd, 1) := by decide +kernel
theorem d2_27 : decode method_4_code 27 = .ok (.iload_n 0, 1) := by decide +kernel
theorem d2_28 : decode method_4_code 28 = .ok (.bipush 97, 2) := by decide +kernel
theorem d2_30 : decode method_4_code 30 = .ok (.invokestatic 25, 3) := by decide +kernel
theorem d2_33 : decode method_4_code 33 = .ok (.iadd, 1) := by decide +kernel
theorem d2_34 : decode method_4_code 34 = .ok (.iload_n 0, 1) := by decide +kernel
theorem d2_35 : decode method_4_code 35 = .ok (.bipush 123, 2) := by decide +kernel
theorem d2_37 : decode method_4_code 37 = .ok (.invokestatic 25, 3) := by decide +kernel
theorem d2_40 : decode method_4_code 40 = .ok (.iadd, 1) := by decide +kernel
theorem d2_41 : decode method_4_code 41 = .ok (.iload_n 0, 1) := by decide +kernel
theorem d2_42 : decode method_4_code 42 = .ok (.sipush 192, 3) := by decide +kernel
theorem d2_45 : decode method_4_code 45 = .ok (.invokestatic 25, 3) := by decide +kernel
theorem d2_48 : decode method_4_code 48 = .ok (.iadd, 1) := by decide +kernel
theorem d2_49 : decode method_4_code 49 = .ok (.iload_n 0, 1) := by decide +kernel
theorem d2_50 : decode method_4_code 50 = .ok (.sipush 215, 3) := by decide +kernel
theorem d2_53 : decode method_4_code 53 = .ok (.invokestatic 25, 3) := by decide +kernel
theorem d2_56 : decode method_4_code 56 = .ok (.iadd, 1) := by decide +kernel
theorem d2_57 : decode method_4_code 57 = .ok (.iload_n 0, 1) := by decide +kernel
theorem d2_58 : decode method_4_code 58 = .ok (.sipush 216, 3) := by decide +kernel
theorem d2_61 : decode method_4_code 61 = .ok (.invokestatic 25, 3) := by decide +kernel
theorem d2_64 : decode method_4_code 64 = .ok (.iadd, 1) := by decide +kernel
theorem d2_65 : decode method_4_code 65 = .ok (.iload_n 0, 1) := by decide +kernel
theorem d2_66 : decode method_4_code 66 = .ok (.sipush 247, 3) := by decide +kernel
theorem d2_69 : decode method_4_code 69 = .ok (.invokestatic 25, 3) := by decide +kernel
theorem d2_72 : decode method_4_code 72 = .ok (.iadd, 1) := by decide +kernel
theorem d2_73 : decode method_4_code 73 = .ok (.iload_n 0, 1) := by decide +kernel
theorem d2_74 : decode method_4_code 74 = .ok (.sipush 248, 3) := by decide +kernel
theorem d2_77 : decode method_4_code 77 = .ok (.invokestatic 25, 3) := by decide +kernel
theorem d2_80 : decode method_4_code 80 = .ok (.iadd, 1) := by decide +kernel
theorem d2_81 : decode method_4_code 81 = .ok (.iload_n 0, 1) := by decide +kernel
theorem d2_82 : decode method_4_code 82 = .ok (.sipush 768, 3) := by decide +kernel
theorem d2_85 : decode method_4_code 85 = .ok (.invokestatic 25, 3) := by decide +kernel
theorem d2_88 : decode method_4_code 88 = .ok (.iadd, 1) := by decide +kernel
theorem d2_89 : decode method_4_code 89 = .ok (.iload_n 0, 1) := by decide +kernel
theorem d2_90 : decode method_4_code 90 = .ok (.sipush 880, 3) := by decide +kernel
theorem d2_93 : decode method_4_code 93 = .ok (.invokestatic 25, 3) := by decide +kernel
theorem d2_96 : decode method_4_code 96 = .ok (.iadd, 1) := by decide +kernel
theorem d2_97 : decode method_4_code 97 = .ok (.iload_n 0, 1) := by decide +kernel
theorem d2_98 : decode method_4_code 98 = .ok (.sipush 894, 3) := by decide +kernel
theorem d2_101 : decode method_4_code 101 = .ok (.invokestatic 25, 3) := by decide +kernel
theorem d2_104 : decode method_4_code 104 = .ok (.iadd, 1) := by decide +kernel
theorem d2_105 : decode method_4_code 105 = .ok (.iload_n 0, 1) := by decide +kernel
theorem d2_106 : decode method_4_code 106 = .ok (.sipush 895, 3) := by decide +kernel
theorem d2_109 : decode method_4_code 109 = .ok (.invokestatic 25, 3) := by decide +kernel
theorem d2_112 : decode method_4_code 112 = .ok (.iadd, 1) := by decide +kernel
theorem d2_113 : decode method_4_code 113 = .ok (.iload_n 0, 1) := by decide +kernel
theorem d2_114 : decode method_4_code 114 = .ok (.sipush 8192, 3) := by decide +kernel
theorem d2_117 : decode method_4_code 117 = .ok (.invokestatic 25, 3) := by decide +kernel
theorem d2_120 : decode method_4_code 120 = .ok (.iadd, 1) := by decide +kernel
theorem d2_121 : decode method_4_code 121 = .ok (.iload_n 0, 1) := by decide +kernel
theorem d2_122 : decode method_4_code 122 = .ok (.sipush 8204, 3) := by decide +kernel
theorem d2_125 : decode method_4_code 125 = .ok (.invokestatic 25, 3) := by decide +kernel
theorem d2_128 : decode method_4_code 128 = .ok (.iadd, 1) := by decide +kernel
theorem d2_129 : decode method_4_code 129 = .ok (.iload_n 0, 1) := by decide +kernel
theorem d2_130 : decode method_4_code 130 = .ok (.sipush 8206, 3) := by decide +kernel
theorem d2_133 : decode method_4_code 133 = .ok (.invokestatic 25, 3) := by decide +kernel
theorem d2_136 : decode method_4_code 136 = .ok (.iadd, 1) := by decide +kernel
theorem d2_137 : decode method_4_code 137 = .ok (.iload_n 0, 1) := by decide +kernel
theorem d2_138 : decode method_4_code 138 = .ok (.sipush 8304, 3) := by decide +kernel
theorem d2_141 : decode method_4_code 141 = .ok (.invokestatic 25, 3) := by decide +kernel
theorem d2_144 : decode method_4_code 144 = .ok (.iadd, 1) := by decide +kernel
theorem d2_145 : decode method_4_code 145 = .ok (.iload_n 0, 1) := by decide +kernel
theorem d2_146 : decode method_4_code 146 = .ok (.sipush 8592, 3) := by decide +kernel
theorem d2_149 : decode method_4_code 149 = .ok (.invokestatic 25, 3) := by decide +kernel
theorem d2_152 : decode method_4_code 152 = .ok (.iadd, 1) := by decide +kernel
theorem d2_153 : decode method_4_code 153 = .ok (.iload_n 0, 1) := by decide +kernel
theorem d2_154 : decode method_4_code 154 = .ok (.sipush 11264, 3) := by decide +kernel
theorem d2_157 : decode method_4_code 157 = .ok (.invokestatic 25, 3) := by decide +kernel
theorem d2_160 : decode method_4_code 160 = .ok (.iadd, 1) := by decide +kernel
theorem d2_161 : decode method_4_code 161 = .ok (.iload_n 0, 1) := by decide +kernel
theorem d2_162 : decode method_4_code 162 = .ok (.sipush 12272, 3) := by decide +kernel
theorem d2_165 : decode method_4_code 165 = .ok (.invokestatic 25, 3) := by decide +kernel
theorem d2_168 : decode method_4_code 168 = .ok (.iadd, 1) := by decide +kernel
theorem d2_169 : decode method_4_code 169 = .ok (.iload_n 0, 1) := by decide +kernel
theorem d2_170 : decode method_4_code 170 = .ok (.sipush 12289, 3) := by decide +kernel
theorem d2_173 : decode method_4_code 173 = .ok (.invokestatic 25, 3) := by decide +kernel
theorem d2_176 : decode method_4_code 176 = .ok (.iadd, 1) := by decide +kernel
theorem d2_177 : decode method_4_code 177 = .ok (.iload_n 0, 1) := by decide +kernel
theorem d2_178 : decode method_4_code 178 = .ok (.ldc 7, 2) := by decide +kernel
theorem d2_180 : decode method_4_code 180 = .ok (.invokestatic 25, 3) := by decide +kernel
theorem d2_183 : decode method_4_code 183 = .ok (.iadd, 1) := by decide +kernel
theorem d2_184 : decode method_4_code 184 = .ok (.iload_n 0, 1) := by decide +kernel
theorem d2_185 : decode method_4_code 185 = .ok (.ldc 8, 2) := by decide +kernel
theorem d2_187 : decode method_4_code 187 = .ok (.invokestatic 25, 3) := by decide +kernel
theorem d2_190 : decode method_4_code 190 = .ok (.iadd, 1) := by decide +kernel
theorem d2_191 : decode method_4_code 191 = .ok (.iload_n 0, 1) := by decide +kernel
theorem d2_192 : decode method_4_code 192 = .ok (.ldc 9, 2) := by decide +kernel
theorem d2_194 : decode method_4_code 194 = .ok (.invokestatic 25, 3) := by decide +kernel
theorem d2_197 : decode method_4_code 197 = .ok (.iadd, 1) := by decide +kernel
theorem d2_198 : decode method_4_code 198 = .ok (.iload_n 0, 1) := by decide +kernel
theorem d2_199 : decode method_4_code 199 = .ok (.ldc 10, 2) := by decide +kernel
theorem d2_201 : decode method_4_code 201 = .ok (.invokestatic 25, 3) := by decide +kernel
theorem d2_204 : decode method_4_code 204 = .ok (.iadd, 1) := by decide +kernel
theorem d2_205 : decode method_4_code 205 = .ok (.iload_n 0, 1) := by decide +kernel
theorem d2_206 : decode method_4_code 206 = .ok (.ldc 11, 2) := by decide +kernel
theorem d2_208 : decode method_4_code 208 = .ok (.invokestatic 25, 3) := by decide +kernel
theorem d2_211 : decode method_4_code 211 = .ok (.iadd, 1) := by decide +kernel
theorem d2_212 : decode method_4_code 212 = .ok (.iload_n 0, 1) := by decide +kernel
theorem d2_213 : decode method_4_code 213 = .ok (.ldc 12, 2) := by decide +kernel
theorem d2_215 : decode method_4_code 215 = .ok (.invokestatic 25, 3) := by decide +kernel
theorem d2_218 : decode method_4_code 218 = .ok (.iadd, 1) := by decide +kernel
theorem d2_219 : decode method_4_code 219 = .ok (.iload_n 0, 1) := by decide +kernel
theorem d2_220 : decode method_4_code 220 = .ok (.ldc 13, 2) := by decide +kernel
theorem d2_222 : decode method_4_code 222 = .ok (.invokestatic 25, 3) := by decide +kernel
theorem d2_225 : decode method_4_code 225 = .ok (.iadd, 1) := by decide +kernel
theorem d2_226 : decode method_4_code 226 = .ok (.istore_n 1, 1) := by decide +kernel
theorem d2_227 : decode method_4_code 227 = .ok (.iload_n 1, 1) := by decide +kernel
theorem d2_228 : decode method_4_code 228 = .ok (.iconst 1, 1) := by decide +kernel
theorem d2_229 : decode method_4_code 229 = .ok (.iand, 1) := by decide +kernel
theorem d2_230 : decode method_4_code 230 = .ok (.iconst 1, 1) := by decide +kernel
theorem d2_231 : decode method_4_code 231 = .ok (.if_icmp .ne 7, 3) := by decide +kernel
theorem d2_234 : decode method_4_code 234 = .ok (.iconst 1, 1) := by decide +kernel
theorem d2_235 : decode method_4_code 235 = .ok (.goto 4, 3) := by decide +kernel
theorem d2_238 : decode method_4_code 238 = .ok (.iconst 0, 1) := by decide +kernel
theorem d2_239 : decode method_4_code 239 = .ok (.ireturn, 1) := by decide +kernel
theorem pn_2 : plainName "com/example/sapwood/sapwood/query/LexerIsNameStartPinLaw" = true := by first | (simp [plainName, overriddenIn]; done) | decide +kernel
theorem pd_2 : parseMethodDescriptor "(I)Z" = some ⟨[.int], some .boolean⟩ := by decide +kernel
theorem ef_2 (m : MethodId) (y0 : Int32) : entryFrame m #[(.int y0)] 2 = mkF m 0 #[.val (.int y0), .unset] [] := by first | (simp [entryFrame, mkF, argsToLocals, Value.category]; done) | rfl
def Q2 (Z : State) (p1 : Int32) (h0 : Heap) (n0 : Nat) (v : Option Value) (h : Heap) (L : List Loc) : Prop := v = some (.int (own_in p1)) ∧ Fr n0 L ∧ h = h0
def R2 (Z : State) (p1 : Int32) (h0 : Heap) (n0 : Nat) (U : State) (U' : State) (o : Outcome) : Prop := ∃ v L, o = .returned v ∧ Q2 Z p1 h0 n0 v U'.heap L ∧ FrameEnd U o U' L ({ frames := 1, cells := 0, slots := 0, locals := 14 } : Room).cells ({ frames := 1, cells := 0, slots := 0, locals := 14 } : Room).slots
set_option maxRecDepth 65536 in
set_option maxHeartbeats 40000000 in
theorem rm2 (l : Launch) (Z : State) (a0 : Array Value) (hw : ∀ d ∈ tables_1, d.before a0 Z = true) (ws : List Jvm.Cond) (p1 : Int32) (h0 : Heap) (n0 : Nat) (Z0 : n0 ≤ h0.size)  :
    MetFree l (⟨"com/example/sapwood/sapwood/query/LexerIsNameStartPinLaw", "inside", "(I)Z"⟩ : MethodName) (head1 (Jvm.Cond.code (⟨"com/example/sapwood/sapwood/query/LexerIsNameStartPinLaw", "inside", "(I)Z"⟩ : MethodName) method_4_code 2 (some .boolean) :: ws) ({ frames := 1, cells := 0, slots := 0, locals := 14 } : Room)) (fun a U => a = #[(.int p1)] ∧ Z.Warmed39 U.vm ∧ U.heap = h0) (fun _ _ _ _ _ => True) (fun _ U o U' => ∃ v L, o = .returned v ∧ Q2 Z p1 h0 n0 v U'.heap L ∧ FrameEnd U o U' L ({ frames := 1, cells := 0, slots := 0, locals := 14 } : Room).cells ({ frames := 1, cells := 0, slots := 0, locals := 14 } : Room).slots) := by
  refine MetFree.of_bodySF (plainFor_of_name pn_2) hisR ?_
  intro p e s m args below meth c s₁ Bd hml0 hP hK
  obtain ⟨rfl, hZ, hh⟩ := hP
  have hx := Bd.exec
  have hby := Bd.bytes
  have hml : c.maxLocals = 2 := hml0
  have hown : s.vm.findClass "com/example/sapwood/sapwood/query/LexerIsNameStartPinLaw" = some m.cls := findClass_of_methodNamed Bd.named
  have hnm := (name_of_methodNamed Bd.named Bd.method).1
  have X0 : Stand p l e ({ frames := 1, cells := 0, slots := 0, locals := 14 } : Room) s m #[(.int p1)] below meth c s₁ [] 0 0 := Stand.of_body Bd
  have e0 : s₁.heap = h0 := by rw [← hh, Bd.state]; rfl
  have N0 := Fr.nil n0
  show Goes p e below (R2 Z p1 h0 n0 s) (s₁.setTop (entryFrame m #[(.int p1)] 2))
  refine Goes.step (S' := s₁.setTop (mkF m 0 #[.val (.int p1), .unset] [])) (fun t k => castTop (ef_2 m p1) k) ?_
  refine Goes.step (S' := s₁.setTop (mkF m 1 #[.val (.int p1), .unset] [(.int p1)])) (fun t k => XS.iloadN X0.here hx rfl (hb hby d2_0) rfl k) ?_
  refine Goes.step (S' := s₁.setTop (mkF m 3 #[.val (.int p1), .unset] [(.int (65 : Int32)), (.int p1)])) (fun t k => XS.bipush X0.here hx rfl (hb hby d2_1) k) ?_
  obtain ⟨_, _, ⟨T1, L1, k1, n1⟩, -, X1, ⟨Lc1, hQ1, l1, y1, z1⟩, st1⟩ := Jvm.LawKit.callS X0 hx (y := (⟨"com/example/sapwood/sapwood/query/LexerIsNameStartPinLaw", "ge", "(II)I"⟩ : MethodName)) hown (mvT hZ (hw _ (List.mem_of_getElem? (i := 19) rfl))) (mvT hZ (hw _ (List.mem_of_getElem? (i := 20) rfl))) (mvT hZ (hw _ (List.mem_of_getElem? (i := 17) rfl))) (mvT hZ (hw _ (List.mem_of_getElem? (i := 21) rfl))) (by decide) (backOf (W := 0) (rm1 l Z a0 hw [] p1 (65 : Int32) h0 n0 Z0) hZ (hw _ (List.mem_of_getElem? (i := 21) rfl)) (hw _ (List.mem_of_getElem? (i := 17) rfl)) (by decide) (by decide)) (g := (mkF m 3 #[.val (.int p1), .unset] [(.int (65 : Int32)), (.int p1)])) rfl (by rw [hml]; rfl) (argsL := [(.int p1), (.int (65 : Int32))]) (rest := []) (lenOf pd_1 rfl) rfl (by show 2 * 0 + _ ≤ _; exact Nat.le_of_eq rfl) (hb hby d2_3) (fun _ _ => ⟨rfl, e0, (by decide : 0 + 0 ≤ _), (by decide : 0 + 0 ≤ _)⟩)
  dsimp only [Pt.U, Pt.locs, Pt.cells, Pt.slots] at X1 l1 y1 z1 st1 hQ1
  subst l1 y1 z1
  obtain ⟨rfl, N1q, e1⟩ := hQ1
  have N1 := Fr.app N0 N1q
  refine Goes.step (S' := T1.setTop (mkF m 6 #[.val (.int p1), .unset] [(.int (own_ge p1 (65 : Int32)))])) (fun t k => st1 t k) ?_
  obtain ⟨Lp1, Xp1, Np1⟩ : ∃ L, Stand p l e ({ frames := 1, cells := 0, slots := 0, locals := 14 } : Room) s m #[(.int p1)] below meth c T1 L 0 0 ∧ Fr n0 L := ⟨_, X1, N1⟩
  clear X1 N1 N1q st1
  refine Goes.step (S' := T1.setTop (mkF m 7 #[.val (.int p1), .unset] [(.int p1), (.int (own_ge p1 (65 : Int32)))])) (fun t k => XS.iloadN Xp1.here hx rfl (hb hby d2_6) rfl k) ?_
  refine Goes.step (S' := T1.setTop (mkF m 9 #[.val (.int p1), .unset] [(.int (91 : Int32)), (.int p1), (.int (own_ge p1 (65 : Int32)))])) (fun t k => XS.bipush Xp1.here hx rfl (hb hby d2_7) k) ?_
  obtain ⟨_, _, ⟨T2, L2, k2, n2⟩, -, X2, ⟨Lc2, hQ2, l2, y2, z2⟩, st2⟩ := Jvm.LawKit.callS Xp1 hx (y := (⟨"com/example/sapwood/sapwood/query/LexerIsNameStartPinLaw", "ge", "(II)I"⟩ : MethodName)) hown (mvT hZ (hw _ (List.mem_of_getElem? (i := 19) rfl))) (mvT hZ (hw _ (List.mem_of_getElem? (i := 20) rfl))) (mvT hZ (hw _ (List.mem_of_getElem? (i := 17) rfl))) (mvT hZ (hw _ (List.mem_of_getElem? (i := 21) rfl))) (by decide) (backOf (W := 1) (rm1 l Z a0 hw [] p1 (91 : Int32) h0 n0 Z0) hZ (hw _ (List.mem_of_getElem? (i := 21) rfl)) (hw _ (List.mem_of_getElem? (i := 17) rfl)) (by decide) (by decide)) (g := (mkF m 9 #[.val (.int p1), .unset] [(.int (91 : Int32)), (.int p1), (.int (own_ge p1 (65 : Int32)))])) rfl (by rw [hml]; rfl) (argsL := [(.int p1), (.int (91 : Int32))]) (rest := [(.int (own_ge p1 (65 : Int32)))]) (lenOf pd_1 rfl) rfl (by show 2 * 0 + _ ≤ _; exact Nat.le_of_eq rfl) (hb hby d2_9) (fun _ _ => ⟨rfl, e1, (by decide : 0 + 0 ≤ _), (by decide : 0 + 0 ≤ _)⟩)
  dsimp only [Pt.U, Pt.locs, Pt.cells, Pt.slots] at X2 l2 y2 z2 st2 hQ2
  subst l2 y2 z2
  obtain ⟨rfl, N2q, e2⟩ := hQ2
  have N2 := Fr.app Np1 N2q
  refine Goes.step (S' := T2.setTop (mkF m 12 #[.val (.int p1), .unset] [(.int (own_ge p1 (91 : Int32))), (.int (own_ge p1 (65 : Int32)))])) (fun t k => st2 t k) ?_
  obtain ⟨Lp2, Xp2, Np2⟩ : ∃ L, Stand p l e ({ frames := 1, cells := 0, slots := 0, locals := 14 } : Room) s m #[(.int p1)] below meth c T2 L 0 0 ∧ Fr n0 L := ⟨_, X2, N2⟩
  clear X2 N2 N2q st2
  clear Xp1 Np1 e1
  clear Lp1 T1
  refine Goes.step (S' := T2.setTop (mkF m 13 #[.val (.int p1), .unset] [(.int ((own_ge p1 (65 : Int32)) + (own_ge p1 (91 : Int32))))])) (fun t k => XS.iadd Xp2.here hx rfl (hb hby d2_12) rfl k) ?_
  refine Goes.step (S' := T2.setTop (mkF m 14 #[.val (.int p1), .unset] [(.int p1), (.int ((own_ge p1 (65 : Int32)) + (own_ge p1 (91 : Int32))))])) (fun t k => XS.iloadN Xp2.here hx rfl (hb hby d2_13) rfl k) ?_
  refine Goes.step (S' := T2.setTop (mkF m 16 #[.val (.int p1), .unset] [(.int (95 : Int32)), (.int p1), (.int ((own_ge p1 (65 : Int32)) + (own_ge p1 (91 : Int32))))])) (fun t k => XS.bipush Xp2.here hx rfl (hb hby d2_14) k) ?_
  obtain ⟨_, _, ⟨T3, L3, k3, n3⟩, -, X3, ⟨Lc3, hQ3, l3, y3, z3⟩, st3⟩ := Jvm.LawKit.callS Xp2 hx (y := (⟨"com/example/sapwood/sapwood/query/LexerIsNameStartPinLaw", "ge", "(II)I"⟩ : MethodName)) hown (mvT hZ (hw _ (List.mem_of_getElem? (i := 19) rfl))) (mvT hZ (hw _ (List.mem_of_getElem? (i := 20) rfl))) (mvT hZ (hw _ (List.mem_of_getElem? (i := 17) rfl))) (mvT hZ (hw _ (List.mem_of_getElem? (i := 21) rfl))) (by decide) (backOf (W := 1) (rm1 l Z a0 hw [] p1 (95 : Int32) h0 n0 Z0) hZ (hw _ (List.mem_of_getElem? (i := 21) rfl)) (hw _ (List.mem_of_getElem? (i := 17) rfl)) (by decide) (by decide)) (g := (mkF m 16 #[.val (.int p1), .unset] [(.int (95 : Int32)), (.int p1), (.int ((own_ge p1 (65 : Int32)) + (own_ge p1 (91 : Int32))))])) rfl (by rw [hml]; rfl) (argsL := [(.int p1), (.int (95 : Int32))]) (rest := [(.int ((own_ge p1 (65 : Int32)) + (own_ge p1 (91 : Int32))))]) (lenOf pd_1 rfl) rfl (by show 2 * 0 + _ ≤ _; exact Nat.le_of_eq rfl) (hb hby d2_16) (fun _ _ => ⟨rfl, e2, (by decide : 0 + 0 ≤ _), (by decide : 0 + 0 ≤ _)⟩)
  dsimp only [Pt.U, Pt.locs, Pt.cells, Pt.slots] at X3 l3 y3 z3 st3 hQ3
  subst l3 y3 z3
  obtain ⟨rfl, N3q, e3⟩ := hQ3
  have N3 := Fr.app Np2 N3q
  refine Goes.step (S' := T3.setTop (mkF m 19 #[.val (.int p1), .unset] [(.int (own_ge p1 (95 : Int32))), (.int ((own_ge p1 (65 : Int32)) + (own_ge p1 (91 : Int32))))])) (fun t k => st3 t k) ?_
  obtain ⟨Lp3, Xp3, Np3⟩ : ∃ L, Stand p l e ({ frames := 1, cells := 0, slots := 0, locals := 14 } : Room) s m #[(.int p1)] below meth c T3 L 0 0 ∧ Fr n0 L := ⟨_, X3, N3⟩
  clear X3 N3 N3q st3
  clear Xp2 Np2 e2
  clear Lp2 T2
  refine Goes.step (S' := T3.setTop (mkF m 20 #[.val (.int p1), .unset] [(.int (((own_ge p1 (65 : Int32)) + (own_ge p1 (91 : Int32))) + (own_ge p1 (95 : Int32))))])) (fun t k => XS.iadd Xp3.here hx rfl (hb hby d2_19) rfl k) ?_
  refine Goes.step (S' := T3.setTop (mkF m 21 #[.val (.int p1), .unset] [(.int p1), (.int (((own_ge p1 (65 : Int32)) + (own_ge p1 (91 : Int32))) + (own_ge p1 (95 : Int32))))])) (fun t k => XS.iloadN Xp3.here hx rfl (hb hby d2_20) rfl k) ?_
  refine Goes.step (S' := T3.setTop (mkF m 23 #[.val (.int p1), .unset] [(.int (96 : Int32)), (.int p1), (.int (((own_ge p1 (65 : Int32)) + (own_ge p1 (91 : Int32))) + (own_ge p1 (95 : Int32))))])) (fun t k => XS.bipush Xp3.here hx rfl (hb hby d2_21) k) ?_
  obtain ⟨_, _, ⟨T4, L4, k4, n4⟩, -, X4, ⟨Lc4, hQ4, l4, y4, z4⟩, st4⟩ := Jvm.LawKit.callS Xp3 hx (y := (⟨"com/example/sapwood/sapwood/query/LexerIsNameStartPinLaw", "ge", "(II)I"⟩ : MethodName)) hown (mvT hZ (hw _ (List.mem_of_getElem? (i := 19) rfl))) (mvT hZ (hw _ (List.mem_of_getElem? (i := 20) rfl))) (mvT hZ (hw _ (List.mem_of_getElem? (i := 17) rfl))) (mvT hZ (hw _ (List.mem_of_getElem? (i := 21) rfl))) (by decide) (backOf (W := 1) (rm1 l Z a0 hw [] p1 (96 : Int32) h0 n0 Z0) hZ (hw _ (List.mem_of_getElem? (i := 21) rfl)) (hw _ (List.mem_of_getElem? (i := 17) rfl)) (by decide) (by decide)) (g := (mkF m 23 #[.val (.int p1), .unset] [(.int (96 : Int32)), (.int p1), (.int (((own_ge p1 (65 : Int32)) + (own_ge p1 (91 : Int32))) + (own_ge p1 (95 : Int32))))])) rfl (by rw [hml]; rfl) (argsL := [(.int p1), (.int (96 : Int32))]) (rest := [(.int (((own_ge p1 (65 : Int32)) + (own_ge p1 (91 : Int32))) + (own_ge p1 (95 : Int32))))]) (lenOf pd_1 rfl) rfl (by show 2 * 0 + _ ≤ _; exact Nat.le_of_eq rfl) (hb hby d2_23) (fun _ _ => ⟨rfl, e3, (by decide : 0 + 0 ≤ _), (by decide : 0 + 0 ≤ _)⟩)
  dsimp only [Pt.U, Pt.locs, Pt.cells, Pt.slots] at X4 l4 y4 z4 st4 hQ4
  subst l4 y4 z4
  obtain ⟨rfl, N4q, e4⟩ := hQ4
  have N4 := Fr.app Np3 N4q
  refine Goes.step (S' := T4.setTop (mkF m 26 #[.val (.int p1), .unset] [(.int (own_ge p1 (96 : Int32))), (.int (((own_ge p1 (65 : Int32)) + (own_ge p1 (91 : Int32))) + (own_ge p1 (95 : Int32))))])) (fun t k => st4 t k) ?_
  obtain ⟨Lp4, Xp4, Np4⟩ : ∃ L, Stand p l e ({ frames := 1, cells := 0, slots := 0, locals := 14 } : Room) s m #[(.int p1)] below meth c T4 L 0 0 ∧ Fr n0 L := ⟨_, X4, N4⟩
  clear X4 N4 N4q st4
  clear Xp3 Np3 e3
  clear Lp3 T3
  refine Goes.step (S' := T4.setTop (mkF m 27 #[.val (.int p1), .unset] [(.int ((((own_ge p1 (65 : Int32)) + (own_ge p1 (91 : Int32))) + (own_ge p1 (95 : Int32))) + (own_ge p1 (96 : Int32))))])) (fun t k => XS.iadd Xp4.here hx rfl (hb hby d2_26) rfl k) ?_
  refine Goes.step (S' := T4.setTop (mkF m 28 #[.val (.int p1), .unset] [(.int p1), (.int ((((own_ge p1 (65 : Int32)) + (own_ge p1 (91 : Int32))) + (own_ge p1 (95 : Int32))) + (own_ge p1 (96 : Int32))))])) (fun t k => XS.iloadN Xp4.here hx rfl (hb hby d2_27) rfl k) ?_
  refine Goes.step (S' := T4.setTop (mkF m 30 #[.val (.int p1), .unset] [(.int (97 : Int32)), (.int p1), (.int ((((own_ge p1 (65 : Int32)) + (own_ge p1 (91 : Int32))) + (own_ge p1 (95 : Int32))) + (own_ge p1 (96 : Int32))))])) (fun t k => XS.bipush Xp4.here hx rfl (hb hby d2_28) k) ?_
  obtain ⟨_, _, ⟨T5, L5, k5, n5⟩, -, X5, ⟨Lc5, hQ5, l5, y5, z5⟩, st5⟩ := Jvm.LawKit.callS Xp4 hx (y := (⟨"com/example/sapwood/sapwood/query/LexerIsNameStartPinLaw", "ge", "(II)I"⟩ : MethodName)) hown (mvT hZ (hw _ (List.mem_of_getElem? (i := 19) rfl))) (mvT hZ (hw _ (List.mem_of_getElem? (i := 20) rfl))) (mvT hZ (hw _ (List.mem_of_getElem? (i := 17) rfl))) (mvT hZ (hw _ (List.mem_of_getElem? (i := 21) rfl))) (by decide) (backOf (W := 1) (rm1 l Z a0 hw [] p1 (97 : Int32) h0 n0 Z0) hZ (hw _ (List.mem_of_getElem? (i := 21) rfl)) (hw _ (List.mem_of_getElem? (i := 17) rfl)) (by decide) (by decide)) (g := (mkF m 30 #[.val (.int p1), .unset] [(.int (97 : Int32)), (.int p1), (.int ((((own_ge p1 (65 : Int32)) + (own_ge p1 (91 : Int32))) + (own_ge p1 (95 : Int32))) + (own_ge p1 (96 : Int32))))])) rfl (by rw [hml]; rfl) (argsL := [(.int p1), (.int (97 : Int32))]) (rest := [(.int ((((own_ge p1 (65 : Int32)) + (own_ge p1 (91 : Int32))) + (own_ge p1 (95 : Int32))) + (own_ge p1 (96 : Int32))))]) (lenOf pd_1 rfl) rfl (by show 2 * 0 + _ ≤ _; exact Nat.le_of_eq rfl) (hb hby d2_30) (fun _ _ => ⟨rfl, e4, (by decide : 0 + 0 ≤ _), (by decide : 0 + 0 ≤ _)⟩)
  dsimp only [Pt.U, Pt.locs, Pt.cells, Pt.slots] at X5 l5 y5 z5 st5 hQ5
  subst l5 y5 z5
  obtain ⟨rfl, N5q, e5⟩ := hQ5
  have N5 := Fr.app Np4 N5q
  refine Goes.step (S' := T5.setTop (mkF m 33 #[.val (.int p1), .unset] [(.int (own_ge p1 (97 : Int32))), (.int ((((own_ge p1 (65 : Int32)) + (own_ge p1 (91 : Int32))) + (own_ge p1 (95 : Int32))) + (own_ge p1 (96 : Int32))))])) (fun t k => st5 t k) ?_
  obtain ⟨Lp5, Xp5, Np5⟩ : ∃ L, Stand p l e ({ frames := 1, cells := 0, slots := 0, locals := 14 } : Room) s m #[(.int p1)] below meth c T5 L 0 0 ∧ Fr n0 L := ⟨_, X5, N5⟩
  clear X5 N5 N5q st5
  clear Xp4 Np4 e4
  clear Lp4 T4
  refine Goes.step (S' := T5.setTop (mkF m 34 #[.val (.int p1), .unset] [(.int (((((own_ge p1 (65 : Int32)) + (own_ge p1 (91 : Int32))) + (own_ge p1 (95 : Int32))) + (own_ge p1 (96 : Int32))) + (own_ge p1 (97 : Int32))))])) (fun t k => XS.iadd Xp5.here hx rfl (hb hby d2_33) rfl k) ?_
  refine Goes.step (S' := T5.setTop (mkF m 35 #[.val (.int p1), .unset] [(.int p1), (.int (((((own_ge p1 (65 : Int32)) + (own_ge p1 (91 : Int32))) + (own_ge p1 (95 : Int32))) + (own_ge p1 (96 : Int32))) + (own_ge p1 (97 : Int32))))])) (fun t k => XS.iloadN Xp5.here hx rfl (hb hby d2_34) rfl k) ?_
  refine Goes.step (S' := T5.setTop (mkF m 37 #[.val (.int p1), .unset] [(.int (123 : Int32)), (.int p1), (.int (((((own_ge p1 (65 : Int32)) + (own_ge p1 (91 : Int32))) + (own_ge p1 (95 : Int32))) + (own_ge p1 (96 : Int32))) + (own_ge p1 (97 : Int32))))])) (fun t k => XS.bipush Xp5.here hx rfl (hb hby d2_35) k) ?_
  obtain ⟨_, _, ⟨T6, L6, k6, n6⟩, -, X6, ⟨Lc6, hQ6, l6, y6, z6⟩, st6⟩ := Jvm.LawKit.callS Xp5 hx (y := (⟨"com/example/sapwood/sapwood/query/LexerIsNameStartPinLaw", "ge", "(II)I"⟩ : MethodName)) hown (mvT hZ (hw _ (List.mem_of_getElem? (i := 19) rfl))) (mvT hZ (hw _ (List.mem_of_getElem? (i := 20) rfl))) (mvT hZ (hw _ (List.mem_of_getElem? (i := 17) rfl))) (mvT hZ (hw _ (List.mem_of_getElem? (i := 21) rfl))) (by decide) (backOf (W := 1) (rm1 l Z a0 hw [] p1 (123 : Int32) h0 n0 Z0) hZ (hw _ (List.mem_of_getElem? (i := 21) rfl)) (hw _ (List.mem_of_getElem? (i := 17) rfl)) (by decide) (by decide)) (g := (mkF m 37 #[.val (.int p1), .unset] [(.int (123 : Int32)), (.int p1), (.int (((((own_ge p1 (65 : Int32)) + (own_ge p1 (91 : Int32))) + (own_ge p1 (95 : Int32))) + (own_ge p1 (96 : Int32))) + (own_ge p1 (97 : Int32))))])) rfl (by rw [hml]; rfl) (argsL := [(.int p1), (.int (123 : Int32))]) (rest := [(.int (((((own_ge p1 (65 : Int32)) + (own_ge p1 (91 : Int32))) + (own_ge p1 (95 : Int32))) + (own_ge p1 (96 : Int32))) + (own_ge p1 (97 : Int32))))]) (lenOf pd_1 rfl) rfl (by show 2 * 0 + _ ≤ _; exact Nat.le_of_eq rfl) (hb hby d2_37) (fun _ _ => ⟨rfl, e5, (by decide : 0 + 0 ≤ _), (by decide : 0 + 0 ≤ _)⟩)
  dsimp only [Pt.U, Pt.locs, Pt.cells, Pt.slots] at X6 l6 y6 z6 st6 hQ6
  subst l6 y6 z6
  obtain ⟨rfl, N6q, e6⟩ := hQ6
  have N6 := Fr.app Np5 N6q
  refine Goes.step (S' := T6.setTop (mkF m 40 #[.val (.int p1), .unset] [(.int (own_ge p1 (123 : Int32))), (.int (((((own_ge p1 (65 : Int32)) + (own_ge p1 (91 : Int32))) + (own_ge p1 (95 : Int32))) + (own_ge p1 (96 : Int32))) + (own_ge p1 (97 : Int32))))])) (fun t k => st6 t k) ?_
  obtain ⟨Lp6, Xp6, Np6⟩ : ∃ L, Stand p l e ({ frames := 1, cells := 0, slots := 0, locals := 14 } : Room) s m #[(.int p1)] below meth c T6 L 0 0 ∧ Fr n0 L := ⟨_, X6, N6⟩
  clear X6 N6 N6q st6
  clear Xp5 Np5 e5
  clear Lp5 T5
  refine Goes.step (S' := T6.setTop (mkF m 41 #[.val (.int p1), .unset] [(.int ((((((own_ge p1 (65 : Int32)) + (own_ge p1 (91 : Int32))) + (own_ge p1 (95 : Int32))) + (own_ge p1 (96 : Int32))) + (own_ge p1 (97 : Int32))) + (own_ge p1 (123 : Int32))))])) (fun t k => XS.iadd Xp6.here hx rfl (hb hby d2_40) rfl k) ?_
  refine Goes.step (S' := T6.setTop (mkF m 42 #[.val (.int p1), .unset] [(.int p1), (.int ((((((own_ge p1 (65 : Int32)) + (own_ge p1 (91 : Int32))) + (own_ge p1 (95 : Int32))) + (own_ge p1 (96 : Int32))) + (own_ge p1 (97 : Int32))) + (own_ge p1 (123 : Int32))))])) (fun t k => XS.iloadN Xp6.here hx rfl (hb hby d2_41) rfl k) ?_
  refine Goes.step (S' := T6.setTop (mkF m 45 #[.val (.int p1), .unset] [(.int (192 : Int32)), (.int p1), (.int ((((((own_ge p1 (65 : Int32)) + (own_ge p1 (91 : Int32))) + (own_ge p1 (95 : Int32))) + (own_ge p1 (96 : Int32))) + (own_ge p1 (97 : Int32))) + (own_ge p1 (123 : Int32))))])) (fun t k => XS.sipush Xp6.here hx rfl (hb hby d2_42) k) ?_
  obtain ⟨_, _, ⟨T7, L7, k7, n7⟩, -, X7, ⟨Lc7, hQ7, l7, y7, z7⟩, st7⟩ := Jvm.LawKit.callS Xp6 hx (y := (⟨"com/example/sapwood/sapwood/query/LexerIsNameStartPinLaw", "ge", "(II)I"⟩ : MethodName)) hown (mvT hZ (hw _ (List.mem_of_getElem? (i := 19) rfl))) (mvT hZ (hw _ (List.mem_of_getElem? (i := 20) rfl))) (mvT hZ (hw _ (List.mem_of_getElem? (i := 17) rfl))) (mvT hZ (hw _ (List.mem_of_getElem? (i := 21) rfl))) (by decide) (backOf (W := 1) (rm1 l Z a0 hw [] p1 (192 : Int32) h0 n0 Z0) hZ (hw _ (List.mem_of_getElem? (i := 21) rfl)) (hw _ (List.mem_of_getElem? (i := 17) rfl)) (by decide) (by decide)) (g := (mkF m 45 #[.val (.int p1), .unset] [(.int (192 : Int32)), (.int p1), (.int ((((((own_ge p1 (65 : Int32)) + (own_ge p1 (91 : Int32))) + (own_ge p1 (95 : Int32))) + (own_ge p1 (96 : Int32))) + (own_ge p1 (97 : Int32))) + (own_ge p1 (123 : Int32))))])) rfl (by rw [hml]; rfl) (argsL := [(.int p1), (.int (192 : Int32))]) (rest := [(.int ((((((own_ge p1 (65 : Int32)) + (own_ge p1 (91 : Int32))) + (own_ge p1 (95 : Int32))) + (own_ge p1 (96 : Int32))) + (own_ge p1 (97 : Int32))) + (own_ge p1 (123 : Int32))))]) (lenOf pd_1 rfl) rfl (by show 2 * 0 + _ ≤ _; exact Nat.le_of_eq rfl) (hb hby d2_45) (fun _ _ => ⟨rfl, e6, (by decide : 0 + 0 ≤ _), (by decide : 0 + 0 ≤ _)⟩)
  dsimp only [Pt.U, Pt.locs, Pt.cells, Pt.slots] at X7 l7 y7 z7 st7 hQ7
  subst l7 y7 z7
  obtain ⟨rfl, N7q, e7⟩ := hQ7
  have N7 := Fr.app Np6 N7q
  refine Goes.step (S' := T7.setTop (mkF m 48 #[.val (.int p1), .unset] [(.int (own_ge p1 (192 : Int32))), (.int ((((((own_ge p1 (65 : Int32)) + (own_ge p1 (91 : Int32))) + (own_ge p1 (95 : Int32))) + (own_ge p1 (96 : Int32))) + (own_ge p1 (97 : Int32))) + (own_ge p1 (123 : Int32))))])) (fun t k => st7 t k) ?_
  obtain ⟨Lp7, Xp7, Np7⟩ : ∃ L, Stand p l e ({ frames := 1, cells := 0, slots := 0, locals := 14 } : Room) s m #[(.int p1)] below meth c T7 L 0 0 ∧ Fr n0 L := ⟨_, X7, N7⟩
  clear X7 N7 N7q st7
  clear Xp6 Np6 e6
  clear Lp6 T6
  refine Goes.step (S' := T7.setTop (mkF m 49 #[.val (.int p1), .unset] [(.int (((((((own_ge p1 (65 : Int32)) + (own_ge p1 (91 : Int32))) + (own_ge p1 (95 : Int32))) + (own_ge p1 (96 : Int32))) + (own_ge p1 (97 : Int32))) + (own_ge p1 (123 : Int32))) + (own_ge p1 (192 : Int32))))])) (fun t k => XS.iadd Xp7.here hx rfl (hb hby d2_48) rfl k) ?_
  refine Goes.step (S' := T7.setTop (mkF m 50 #[.val (.int p1), .unset] [(.int p1), (.int (((((((own_ge p1 (65 : Int32)) + (own_ge p1 (91 : Int32))) + (own_ge p1 (95 : Int32))) + (own_ge p1 (96 : Int32))) + (own_ge p1 (97 : Int32))) + (own_ge p1 (123 : Int32))) + (own_ge p1 (192 : Int32))))])) (fun t k => XS.iloadN Xp7.here hx rfl (hb hby d2_49) rfl k) ?_
  refine Goes.step (S' := T7.setTop (mkF m 53 #[.val (.int p1), .unset] [(.int (215 : Int32)), (.int p1), (.int (((((((own_ge p1 (65 : Int32)) + (own_ge p1 (91 : Int32))) + (own_ge p1 (95 : Int32))) + (own_ge p1 (96 : Int32))) + (own_ge p1 (97 : Int32))) + (own_ge p1 (123 : Int32))) + (own_ge p1 (192 : Int32))))])) (fun t k => XS.sipush Xp7.here hx rfl (hb hby d2_50) k) ?_
  obtain ⟨_, _, ⟨T8, L8, k8, n8⟩, -, X8, ⟨Lc8, hQ8, l8, y8, z8⟩, st8⟩ := Jvm.LawKit.callS Xp7 hx (y := (⟨"com/example/sapwood/sapwood/query/LexerIsNameStartPinLaw", "ge", "(II)I"⟩ : MethodName)) hown (mvT hZ (hw _ (List.mem_of_getElem? (i := 19) rfl))) (mvT hZ (hw _ (List.mem_of_getElem? (i := 20) rfl))) (mvT hZ (hw _ (List.mem_of_getElem? (i := 17) rfl))) (mvT hZ (hw _ (List.mem_of_getElem? (i := 21) rfl))) (by decide) (backOf (W := 1) (rm1 l Z a0 hw [] p1 (215 : Int32) h0 n0 Z0) hZ (hw _ (List.mem_of_getElem? (i := 21) rfl)) (hw _ (List.mem_of_getElem? (i := 17) rfl)) (by decide) (by decide)) (g := (mkF m 53 #[.val (.int p1), .unset] [(.int (215 : Int32)), (.int p1), (.int (((((((own_ge p1 (65 : Int32)) + (own_ge p1 (91 : Int32))) + (own_ge p1 (95 : Int32))) + (own_ge p1 (96 : Int32))) + (own_ge p1 (97 : Int32))) + (own_ge p1 (123 : Int32))) + (own_ge p1 (192 : Int32))))])) rfl (by rw [hml]; rfl) (argsL := [(.int p1), (.int (215 : Int32))]) (rest := [(.int (((((((own_ge p1 (65 : Int32)) + (own_ge p1 (91 : Int32))) + (own_ge p1 (95 : Int32))) + (own_ge p1 (96 : Int32))) + (own_ge p1 (97 : Int32))) + (own_ge p1 (123 : Int32))) + (own_ge p1 (192 : Int32))))]) (lenOf pd_1 rfl) rfl (by show 2 * 0 + _ ≤ _; exact Nat.le_of_eq rfl) (hb hby d2_53) (fun _ _ => ⟨rfl, e7, (by decide : 0 + 0 ≤ _), (by decide : 0 + 0 ≤ _)⟩)
  dsimp only [Pt.U, Pt.locs, Pt.cells, Pt.slots] at X8 l8 y8 z8 st8 hQ8
  subst l8 y8 z8
  obtain ⟨rfl, N8q, e8⟩ := hQ8
  have N8 := Fr.app Np7 N8q
  refine Goes.step (S' := T8.setTop (mkF m 56 #[.val (.int p1), .unset] [(.int (own_ge p1 (215 : Int32))), (.int (((((((own_ge p1 (65 : Int32)) + (own_ge p1 (91 : Int32))) + (own_ge p1 (95 : Int32))) + (own_ge p1 (96 : Int32))) + (own_ge p1 (97 : Int32))) + (own_ge p1 (123 : Int32))) + (own_ge p1 (192 : Int32))))])) (fun t k => st8 t k) ?_
  obtain ⟨Lp8, Xp8, Np8⟩ : ∃ L, Stand p l e ({ frames := 1, cells := 0, slots := 0, locals := 14 } : Room) s m #[(.int p1)] below meth c T8 L 0 0 ∧ Fr n0 L := ⟨_, X8, N8⟩
  clear X8 N8 N8q st8
  clear Xp7 Np7 e7
  clear Lp7 T7
  refine Goes.step (S' := T8.setTop (mkF m 57 #[.val (.int p1), .unset] [(.int ((((((((own_ge p1 (65 : Int32)) + (own_ge p1 (91 : Int32))) + (own_ge p1 (95 : Int32))) + (own_ge p1 (96 : Int32))) + (own_ge p1 (97 : Int32))) + (own_ge p1 (123 : Int32))) + (own_ge p1 (192 : Int32))) + (own_ge p1 (215 : Int32))))])) (fun t k => XS.iadd Xp8.here hx rfl (hb hby d2_56) rfl k) ?_
  refine Goes.step (S' := T8.setTop (mkF m 58 #[.val (.int p1), .unset] [(.int p1), (.int ((((((((own_ge p1 (65 : Int32)) + (own_ge p1 (91 : Int32))) + (own_ge p1 (95 : Int32))) + (own_ge p1 (96 : Int32))) + (own_ge p1 (97 : Int32))) + (own_ge p1 (123 : Int32))) + (own_ge p1 (192 : Int32))) + (own_ge p1 (215 : Int32))))])) (fun t k => XS.iloadN Xp8.here hx rfl (hb hby d2_57) rfl k) ?_
  refine Goes.step (S' := T8.setTop (mkF m 61 #[.val (.int p1), .unset] [(.int (216 : Int32)), (.int p1), (.int ((((((((own_ge p1 (65 : Int32)) + (own_ge p1 (91 : Int32))) + (own_ge p1 (95 : Int32))) + (own_ge p1 (96 : Int32))) + (own_ge p1 (97 : Int32))) + (own_ge p1 (123 : Int32))) + (own_ge p1 (192 : Int32))) + (own_ge p1 (215 : Int32))))])) (fun t k => XS.sipush Xp8.here hx rfl (hb hby d2_58) k) ?_
  obtain ⟨_, _, ⟨T9, L9, k9, n9⟩, -, X9, ⟨Lc9, hQ9, l9, y9, z9⟩, st9⟩ := Jvm.LawKit.callS Xp8 hx (y := (⟨"com/example/sapwood/sapwood/query/LexerIsNameStartPinLaw", "ge", "(II)I"⟩ : MethodName)) hown (mvT hZ (hw _ (List.mem_of_getElem? (i := 19) rfl))) (mvT hZ (hw _ (List.mem_of_getElem? (i := 20) rfl))) (mvT hZ (hw _ (List.mem_of_getElem? (i := 17) rfl))) (mvT hZ (hw _ (List.mem_of_getElem? (i := 21) rfl))) (by decide) (backOf (W := 1) (rm1 l Z a0 hw [] p1 (216 : Int32) h0 n0 Z0) hZ (hw _ (List.mem_of_getElem? (i := 21) rfl)) (hw _ (List.mem_of_getElem? (i := 17) rfl)) (by decide) (by decide)) (g := (mkF m 61 #[.val (.int p1), .unset] [(.int (216 : Int32)), (.int p1), (.int ((((((((own_ge p1 (65 : Int32)) + (own_ge p1 (91 : Int32))) + (own_ge p1 (95 : Int32))) + (own_ge p1 (96 : Int32))) + (own_ge p1 (97 : Int32))) + (own_ge p1 (123 : Int32))) + (own_ge p1 (192 : Int32))) + (own_ge p1 (215 : Int32))))])) rfl (by rw [hml]; rfl) (argsL := [(.int p1), (.int (216 : Int32))]) (rest := [(.int ((((((((own_ge p1 (65 : Int32)) + (own_ge p1 (91 : Int32))) + (own_ge p1 (95 : Int32))) + (own_ge p1 (96 : Int32))) + (own_ge p1 (97 : Int32))) + (own_ge p1 (123 : Int32))) + (own_ge p1 (192 : Int32))) + (own_ge p1 (215 : Int32))))]) (lenOf pd_1 rfl) rfl (by show 2 * 0 + _ ≤ _; exact Nat.le_of_eq rfl) (hb hby d2_61) (fun _ _ => ⟨rfl, e8, (by decide : 0 + 0 ≤ _), (by decide : 0 + 0 ≤ _)⟩)
  dsimp only [Pt.U, Pt.locs, Pt.cells, Pt.slots] at X9 l9 y9 z9 st9 hQ9
  subst l9 y9 z9
  obtain ⟨rfl, N9q, e9⟩ := hQ9
  have N9 := Fr.app Np8 N9q
  refine Goes.step (S' := T9.setTop (mkF m 64 #[.val (.int p1), .unset] [(.int (own_ge p1 (216 : Int32))), (.int ((((((((own_ge p1 (65 : Int32)) + (own_ge p1 (91 : Int32))) + (own_ge p1 (95 : Int32))) + (own_ge p1 (96 : Int32))) + (own_ge p1 (97 : Int32))) + (own_ge p1 (123 : Int32))) + (own_ge p1 (192 : Int32))) + (own_ge p1 (215 : Int32))))])) (fun t k => st9 t k) ?_
  obtain ⟨Lp9, Xp9, Np9⟩ : ∃ L, Stand p l e ({ frames := 1, cells := 0, slots := 0, locals := 14 } : Room) s m #[(.int p1)] below meth c T9 L 0 0 ∧ Fr n0 L := ⟨_, X9, N9⟩
  clear X9 N9 N9q st9
  clear Xp8 Np8 e8
  clear Lp8 T8
  refine Goes.step (S' := T9.setTop (mkF m 65 #[.val (.int p1), .unset] [(.int (((((((((own_ge p1 (65 : Int32)) + (own_ge p1 (91 : Int32))) + (own_ge p1 (95 : Int32))) + (own_ge p1 (96 : Int32))) + (own_ge p1 (97 : Int32))) + (own_ge p1 (123 : Int32))) + (own_ge p1 (192 : Int32))) + (own_ge p1 (215 : Int32))) + (own_ge p1 (216 : Int32))))])) (fun t k => XS.iadd Xp9.here hx rfl (hb hby d2_64) rfl k) ?_
  refine Goes.step (S' := T9.setTop (mkF m 66 #[.val (.int p1), .unset] [(.int p1), (.int (((((((((own_ge p1 (65 : Int32)) + (own_ge p1 (91 : Int32))) + (own_ge p1 (95 : Int32))) + (own_ge p1 (96 : Int32))) + (own_ge p1 (97 : Int32))) + (own_ge p1 (123 : Int32))) + (own_ge p1 (192 : Int32))) + (own_ge p1 (215 : Int32))) + (own_ge p1 (216 : Int32))))])) (fun t k => XS.iloadN Xp9.here hx rfl (hb hby d2_65) rfl k) ?_
  refine Goes.step (S' := T9.setTop (mkF m 69 #[.val (.int p1), .unset] [(.int (247 : Int32)), (.int p1), (.int (((((((((own_ge p1 (65 : Int32)) + (own_ge p1 (91 : Int32))) + (own_ge p1 (95 : Int32))) + (own_ge p1 (96 : Int32))) + (own_ge p1 (97 : Int32))) + (own_ge p1 (123 : Int32))) + (own_ge p1 (192 : Int32))) + (own_ge p1 (215 : Int32))) + (own_ge p1 (216 : Int32))))])) (fun t k => XS.sipush Xp9.here hx rfl (hb hby d2_66) k) ?_
  obtain ⟨_, _, ⟨T10, L10, k10, n10⟩, -, X10, ⟨Lc10, hQ10, l10, y10, z10⟩, st10⟩ := Jvm.LawKit.callS Xp9 hx (y := (⟨"com/example/sapwood/sapwood/query/LexerIsNameStartPinLaw", "ge", "(II)I"⟩ : MethodName)) hown (mvT hZ (hw _ (List.mem_of_getElem? (i := 19) rfl))) (mvT hZ (hw _ (List.mem_of_getElem? (i := 20) rfl))) (mvT hZ (hw _ (List.mem_of_getElem? (i := 17) rfl))) (mvT hZ (hw _ (List.mem_of_getElem? (i := 21) rfl))) (by decide) (backOf (W := 1) (rm1 l Z a0 hw [] p1 (247 : Int32) h0 n0 Z0) hZ (hw _ (List.mem_of_getElem? (i := 21) rfl)) (hw _ (List.mem_of_getElem? (i := 17) rfl)) (by decide) (by decide)) (g := (mkF m 69 #[.val (.int p1), .unset] [(.int (247 : Int32)), (.int p1), (.int (((((((((own_ge p1 (65 : Int32)) + (own_ge p1 (91 : Int32))) + (own_ge p1 (95 : Int32))) + (own_ge p1 (96 : Int32))) + (own_ge p1 (97 : Int32))) + (own_ge p1 (123 : Int32))) + (own_ge p1 (192 : Int32))) + (own_ge p1 (215 : Int32))) + (own_ge p1 (216 : Int32))))])) rfl (by rw [hml]; rfl) (argsL := [(.int p1), (.int (247 : Int32))]) (rest := [(.int (((((((((own_ge p1 (65 : Int32)) + (own_ge p1 (91 : Int32))) + (own_ge p1 (95 : Int32))) + (own_ge p1 (96 : Int32))) + (own_ge p1 (97 : Int32))) + (own_ge p1 (123 : Int32))) + (own_ge p1 (192 : Int32))) + (own_ge p1 (215 : Int32))) + (own_ge p1 (216 : Int32))))]) (lenOf pd_1 rfl) rfl (by show 2 * 0 + _ ≤ _; exact Nat.le_of_eq rfl) (hb hby d2_69) (fun _ _ => ⟨rfl, e9, (by decide : 0 + 0 ≤ _), (by decide : 0 + 0 ≤ _)⟩)
  dsimp only [Pt.U, Pt.locs, Pt.cells, Pt.slots] at X10 l10 y10 z10 st10 hQ10
  subst l10 y10 z10
  obtain ⟨rfl, N10q, e10⟩ := hQ10
  have N10 := Fr.app Np9 N10q
  refine Goes.step (S' := T10.setTop (mkF m 72 #[.val (.int p1), .unset] [(.int (own_ge p1 (247 : Int32))), (.int (((((((((own_ge p1 (65 : Int32)) + (own_ge p1 (91 : Int32))) + (own_ge p1 (95 : Int32))) + (own_ge p1 (96 : Int32))) + (own_ge p1 (97 : Int32))) + (own_ge p1 (123 : Int32))) + (own_ge p1 (192 : Int32))) + (own_ge p1 (215 : Int32))) + (own_ge p1 (216 : Int32))))])) (fun t k => st10 t k) ?_
  obtain ⟨Lp10, Xp10, Np10⟩ : ∃ L, Stand p l e ({ frames := 1, cells := 0, slots := 0, locals := 14 } : Room) s m #[(.int p1)] below meth c T10 L 0 0 ∧ Fr n0 L := ⟨_, X10, N10⟩
  clear X10 N10 N10q st10
  clear Xp9 Np9 e9
  clear Lp9 T9
  refine Goes.step (S' := T10.setTop (mkF m 73 #[.val (.int p1), .unset] [(.int ((((((((((own_ge p1 (65 : Int32)) + (own_ge p1 (91 : Int32))) + (own_ge p1 (95 : Int32))) + (own_ge p1 (96 : Int32))) + (own_ge p1 (97 : Int32))) + (own_ge p1 (123 : Int32))) + (own_ge p1 (192 : Int32))) + (own_ge p1 (215 : Int32))) + (own_ge p1 (216 : Int32))) + (own_ge p1 (247 : Int32))))])) (fun t k => XS.iadd Xp10.here hx rfl (hb hby d2_72) rfl k) ?_
  refine Goes.step (S' := T10.setTop (mkF m 74 #[.val (.int p1), .unset] [(.int p1), (.int ((((((((((own_ge p1 (65 : Int32)) + (own_ge p1 (91 : Int32))) + (own_ge p1 (95 : Int32))) + (own_ge p1 (96 : Int32))) + (own_ge p1 (97 : Int32))) + (own_ge p1 (123 : Int32))) + (own_ge p1 (192 : Int32))) + (own_ge p1 (215 : Int32))) + (own_ge p1 (216 : Int32))) + (own_ge p1 (247 : Int32))))])) (fun t k => XS.iloadN Xp10.here hx rfl (hb hby d2_73) rfl k) ?_
  refine Goes.step (S' := T10.setTop (mkF m 77 #[.val (.int p1), .unset] [(.int (248 : Int32)), (.int p1), (.int ((((((((((own_ge p1 (65 : Int32)) + (own_ge p1 (91 : Int32))) + (own_ge p1 (95 : Int32))) + (own_ge p1 (96 : Int32))) + (own_ge p1 (97 : Int32))) + (own_ge p1 (123 : Int32))) + (own_ge p1 (192 : Int32))) + (own_ge p1 (215 : Int32))) + (own_ge p1 (216 : Int32))) + (own_ge p1 (247 : Int32))))])) (fun t k => XS.sipush Xp10.here hx rfl (hb hby d2_74) k) ?_
  obtain ⟨_, _, ⟨T11, L11, k11, n11⟩, -, X11, ⟨Lc11, hQ11, l11, y11, z11⟩, st11⟩ := Jvm.LawKit.callS Xp10 hx (y := (⟨"com/example/sapwood/sapwood/query/LexerIsNameStartPinLaw", "ge", "(II)I"⟩ : MethodName)) hown (mvT hZ (hw _ (List.mem_of_getElem? (i := 19) rfl))) (mvT hZ (hw _ (List.mem_of_getElem? (i := 20) rfl))) (mvT hZ (hw _ (List.mem_of_getElem? (i := 17) rfl))) (mvT hZ (hw _ (List.mem_of_getElem? (i := 21) rfl))) (by decide) (backOf (W := 1) (rm1 l Z a0 hw [] p1 (248 : Int32) h0 n0 Z0) hZ (hw _ (List.mem_of_getElem? (i := 21) rfl)) (hw _ (List.mem_of_getElem? (i := 17) rfl)) (by decide) (by decide)) (g := (mkF m 77 #[.val (.int p1), .unset] [(.int (248 : Int32)), (.int p1), (.int ((((((((((own_ge p1 (65 : Int32)) + (own_ge p1 (91 : Int32))) + (own_ge p1 (95 : Int32))) + (own_ge p1 (96 : Int32))) + (own_ge p1 (97 : Int32))) + (own_ge p1 (123 : Int32))) + (own_ge p1 (192 : Int32))) + (own_ge p1 (215 : Int32))) + (own_ge p1 (216 : Int32))) + (own_ge p1 (247 : Int32))))])) rfl (by rw [hml]; rfl) (argsL := [(.int p1), (.int (248 : Int32))]) (rest := [(.int ((((((((((own_ge p1 (65 : Int32)) + (own_ge p1 (91 : Int32))) + (own_ge p1 (95 : Int32))) + (own_ge p1 (96 : Int32))) + (own_ge p1 (97 : Int32))) + (own_ge p1 (123 : Int32))) + (own_ge p1 (192 : Int32))) + (own_ge p1 (215 : Int32))) + (own_ge p1 (216 : Int32))) + (own_ge p1 (247 : Int32))))]) (lenOf pd_1 rfl) rfl (by show 2 * 0 + _ ≤ _; exact Nat.le_of_eq rfl) (hb hby d2_77) (fun _ _ => ⟨rfl, e10, (by decide : 0 + 0 ≤ _), (by decide : 0 + 0 ≤ _)⟩)
  dsimp only [Pt.U, Pt.locs, Pt.cells, Pt.slots] at X11 l11 y11 z11 st11 hQ11
  subst l11 y11 z11
  obtain ⟨rfl, N11q, e11⟩ := hQ11
  have N11 := Fr.app Np10 N11q
  refine Goes.step (S' := T11.setTop (mkF m 80 #[.val (.int p1), .unset] [(.int (own_ge p1 (248 : Int32))), (.int ((((((((((own_ge p1 (65 : Int32)) + (own_ge p1 (91 : Int32))) + (own_ge p1 (95 : Int32))) + (own_ge p1 (96 : Int32))) + (own_ge p1 (97 : Int32))) + (own_ge p1 (123 : Int32))) + (own_ge p1 (192 : Int32))) + (own_ge p1 (215 : Int32))) + (own_ge p1 (216 : Int32))) + (own_ge p1 (247 : Int32))))])) (fun t k => st11 t k) ?_
  obtain ⟨Lp11, Xp11, Np11⟩ : ∃ L, Stand p l e ({ frames := 1, cells := 0, slots := 0, locals := 14 } : Room) s m #[(.int p1)] below meth c T11 L 0 0 ∧ Fr n0 L := ⟨_, X11, N11⟩
  clear X11 N11 N11q st11
  clear Xp10 Np10 e10
  clear Lp10 T10
  refine Goes.step (S' := T11.setTop (mkF m 81 #[.val (.int p1), .unset] [(.int (((((((((((own_ge p1 (65 : Int32)) + (own_ge p1 (91 : Int32))) + (own_ge p1 (95 : Int32))) + (own_ge p1 (96 : Int32))) + (own_ge p1 (97 : Int32))) + (own_ge p1 (123 : Int32))) + (own_ge p1 (192 : Int32))) + (own_ge p1 (215 : Int32))) + (own_ge p1 (216 : Int32))) + (own_ge p1 (247 : Int32))) + (own_ge p1 (248 : Int32))))])) (fun t k => XS.iadd Xp11.here hx rfl (hb hby d2_80) rfl k) ?_
  refine Goes.step (S' := T11.setTop (mkF m 82 #[.val (.int p1), .unset] [(.int p1), (.int (((((((((((own_ge p1 (65 : Int32)) + (own_ge p1 (91 : Int32))) + (own_ge p1 (95 : Int32))) + (own_ge p1 (96 : Int32))) + (own_ge p1 (97 : Int32))) + (own_ge p1 (123 : Int32))) + (own_ge p1 (192 : Int32))) + (own_ge p1 (215 : Int32))) + (own_ge p1 (216 : Int32))) + (own_ge p1 (247 : Int32))) + (own_ge p1 (248 : Int32))))])) (fun t k => XS.iloadN Xp11.here hx rfl (hb hby d2_81) rfl k) ?_
  refine Goes.step (S' := T11.setTop (mkF m 85 #[.val (.int p1), .unset] [(.int (768 : Int32)), (.int p1), (.int (((((((((((own_ge p1 (65 : Int32)) + (own_ge p1 (91 : Int32))) + (own_ge p1 (95 : Int32))) + (own_ge p1 (96 : Int32))) + (own_ge p1 (97 : Int32))) + (own_ge p1 (123 : Int32))) + (own_ge p1 (192 : Int32))) + (own_ge p1 (215 : Int32))) + (own_ge p1 (216 : Int32))) + (own_ge p1 (247 : Int32))) + (own_ge p1 (248 : Int32))))])) (fun t k => XS.sipush Xp11.here hx rfl (hb hby d2_82) k) ?_
  obtain ⟨_, _, ⟨T12, L12, k12, n12⟩, -, X12, ⟨Lc12, hQ12, l12, y12, z12⟩, st12⟩ := Jvm.LawKit.callS Xp11 hx (y := (⟨"com/example/sapwood/sapwood/query/LexerIsNameStartPinLaw", "ge", "(II)I"⟩ : MethodName)) hown (mvT hZ (hw _ (List.mem_of_getElem? (i := 19) rfl))) (mvT hZ (hw _ (List.mem_of_getElem? (i := 20) rfl))) (mvT hZ (hw _ (List.mem_of_getElem? (i := 17) rfl))) (mvT hZ (hw _ (List.mem_of_getElem? (i := 21) rfl))) (by decide) (backOf (W := 1) (rm1 l Z a0 hw [] p1 (768 : Int32) h0 n0 Z0) hZ (hw _ (List.mem_of_getElem? (i := 21) rfl)) (hw _ (List.mem_of_getElem? (i := 17) rfl)) (by decide) (by decide)) (g := (mkF m 85 #[.val (.int p1), .unset] [(.int (768 : Int32)), (.int p1), (.int (((((((((((own_ge p1 (65 : Int32)) + (own_ge p1 (91 : Int32))) + (own_ge p1 (95 : Int32))) + (own_ge p1 (96 : Int32))) + (own_ge p1 (97 : Int32))) + (own_ge p1 (123 : Int32))) + (own_ge p1 (192 : Int32))) + (own_ge p1 (215 : Int32))) + (own_ge p1 (216 : Int32))) + (own_ge p1 (247 : Int32))) + (own_ge p1 (248 : Int32))))])) rfl (by rw [hml]; rfl) (argsL := [(.int p1), (.int (768 : Int32))]) (rest := [(.int (((((((((((own_ge p1 (65 : Int32)) + (own_ge p1 (91 : Int32))) + (own_ge p1 (95 : Int32))) + (own_ge p1 (96 : Int32))) + (own_ge p1 (97 : Int32))) + (own_ge p1 (123 : Int32))) + (own_ge p1 (192 : Int32))) + (own_ge p1 (215 : Int32))) + (own_ge p1 (216 : Int32))) + (own_ge p1 (247 : Int32))) + (own_ge p1 (248 : Int32))))]) (lenOf pd_1 rfl) rfl (by show 2 * 0 + _ ≤ _; exact Nat.le_of_eq rfl) (hb hby d2_85) (fun _ _ => ⟨rfl, e11, (by decide : 0 + 0 ≤ _), (by decide : 0 + 0 ≤ _)⟩)
  dsimp only [Pt.U, Pt.locs, Pt.cells, Pt.slots] at X12 l12 y12 z12 st12 hQ12
  subst l12 y12 z12
  obtain ⟨rfl, N12q, e12⟩ := hQ12
  have N12 := Fr.app Np11 N12q
  refine Goes.step (S' := T12.setTop (mkF m 88 #[.val (.int p1), .unset] [(.int (own_ge p1 (768 : Int32))), (.int (((((((((((own_ge p1 (65 : Int32)) + (own_ge p1 (91 : Int32))) + (own_ge p1 (95 : Int32))) + (own_ge p1 (96 : Int32))) + (own_ge p1 (97 : Int32))) + (own_ge p1 (123 : Int32))) + (own_ge p1 (192 : Int32))) + (own_ge p1 (215 : Int32))) + (own_ge p1 (216 : Int32))) + (own_ge p1 (247 : Int32))) + (own_ge p1 (248 : Int32))))])) (fun t k => st12 t k) ?_
  obtain ⟨Lp12, Xp12, Np12⟩ : ∃ L, Stand p l e ({ frames := 1, cells := 0, slots := 0, locals := 14 } : Room) s m #[(.int p1)] below meth c T12 L 0 0 ∧ Fr n0 L := ⟨_, X12, N12⟩
  clear X12 N12 N12q st12
  clear Xp11 Np11 e11
  clear Lp11 T11
  refine Goes.step (S' := T12.setTop (mkF m 89 #[.val (.int p1), .unset] [(.int ((((((((((((own_ge p1 (65 : Int32)) + (own_ge p1 (91 : Int32))) + (own_ge p1 (95 : Int32))) + (own_ge p1 (96 : Int32))) + (own_ge p1 (97 : Int32))) + (own_ge p1 (123 : Int32))) + (own_ge p1 (192 : Int32))) + (own_ge p1 (215 : Int32))) + (own_ge p1 (216 : Int32))) + (own_ge p1 (247 : Int32))) + (own_ge p1 (248 : Int32))) + (own_ge p1 (768 : Int32))))])) (fun t k => XS.iadd Xp12.here hx rfl (hb hby d2_88) rfl k) ?_
  refine Goes.step (S' := T12.setTop (mkF m 90 #[.val (.int p1), .unset] [(.int p1), (.int ((((((((((((own_ge p1 (65 : Int32)) + (own_ge p1 (91 : Int32))) + (own_ge p1 (95 : Int32))) + (own_ge p1 (96 : Int32))) + (own_ge p1 (97 : Int32))) + (own_ge p1 (123 : Int32))) + (own_ge p1 (192 : Int32))) + (own_ge p1 (215 : Int32))) + (own_ge p1 (216 : Int32))) + (own_ge p1 (247 : Int32))) + (own_ge p1 (248 : Int32))) + (own_ge p1 (768 : Int32))))])) (fun t k => XS.iloadN Xp12.here hx rfl (hb hby d2_89) rfl k) ?_
  refine Goes.step (S' := T12.setTop (mkF m 93 #[.val (.int p1), .unset] [(.int (880 : Int32)), (.int p1), (.int ((((((((((((own_ge p1 (65 : Int32)) + (own_ge p1 (91 : Int32))) + (own_ge p1 (95 : Int32))) + (own_ge p1 (96 : Int32))) + (own_ge p1 (97 : Int32))) + (own_ge p1 (123 : Int32))) + (own_ge p1 (192 : Int32))) + (own_ge p1 (215 : Int32))) + (own_ge p1 (216 : Int32))) + (own_ge p1 (247 : Int32))) + (own_ge p1 (248 : Int32))) + (own_ge p1 (768 : Int32))))])) (fun t k => XS.sipush Xp12.here hx rfl (hb hby d2_90) k) ?_
  obtain ⟨_, _, ⟨T13, L13, k13, n13⟩, -, X13, ⟨Lc13, hQ13, l13, y13, z13⟩, st13⟩ := Jvm.LawKit.callS Xp12 hx (y := (⟨"com/example/sapwood/sapwood/query/LexerIsNameStartPinLaw", "ge", "(II)I"⟩ : MethodName)) hown (mvT hZ (hw _ (List.mem_of_getElem? (i := 19) rfl))) (mvT hZ (hw _ (List.mem_of_getElem? (i := 20) rfl))) (mvT hZ (hw _ (List.mem_of_getElem? (i := 17) rfl))) (mvT hZ (hw _ (List.mem_of_getElem? (i := 21) rfl))) (by decide) (backOf (W := 1) (rm1 l Z a0 hw [] p1 (880 : Int32) h0 n0 Z0) hZ (hw _ (List.mem_of_getElem? (i := 21) rfl)) (hw _ (List.mem_of_getElem? (i := 17) rfl)) (by decide) (by decide)) (g := (mkF m 93 #[.val (.int p1), .unset] [(.int (880 : Int32)), (.int p1), (.int ((((((((((((own_ge p1 (65 : Int32)) + (own_ge p1 (91 : Int32))) + (own_ge p1 (95 : Int32))) + (own_ge p1 (96 : Int32))) + (own_ge p1 (97 : Int32))) + (own_ge p1 (123 : Int32))) + (own_ge p1 (192 : Int32))) + (own_ge p1 (215 : Int32))) + (own_ge p1 (216 : Int32))) + (own_ge p1 (247 : Int32))) + (own_ge p1 (248 : Int32))) + (own_ge p1 (768 : Int32))))])) rfl (by rw [hml]; rfl) (argsL := [(.int p1), (.int (880 : Int32))]) (rest := [(.int ((((((((((((own_ge p1 (65 : Int32)) + (own_ge p1 (91 : Int32))) + (own_ge p1 (95 : Int32))) + (own_ge p1 (96 : Int32))) + (own_ge p1 (97 : Int32))) + (own_ge p1 (123 : Int32))) + (own_ge p1 (192 : Int32))) + (own_ge p1 (215 : Int32))) + (own_ge p1 (216 : Int32))) + (own_ge p1 (247 : Int32))) + (own_ge p1 (248 : Int32))) + (own_ge p1 (768 : Int32))))]) (lenOf pd_1 rfl) rfl (by show 2 * 0 + _ ≤ _; exact Nat.le_of_eq rfl) (hb hby d2_93) (fun _ _ => ⟨rfl, e12, (by decide : 0 + 0 ≤ _), (by decide : 0 + 0 ≤ _)⟩)
  dsimp only [Pt.U, Pt.locs, Pt.cells, Pt.slots] at X13 l13 y13 z13 st13 hQ13
  subst l13 y13 z13
  obtain ⟨rfl, N13q, e13⟩ := hQ13
  have N13 := Fr.app Np12 N13q
  refine Goes.step (S' := T13.setTop (mkF m 96 #[.val (.int p1), .unset] [(.int (own_ge p1 (880 : Int32))), (.int ((((((((((((own_ge p1 (65 : Int32)) + (own_ge p1 (91 : Int32))) + (own_ge p1 (95 : Int32))) + (own_ge p1 (96 : Int32))) + (own_ge p1 (97 : Int32))) + (own_ge p1 (123 : Int32))) + (own_ge p1 (192 : Int32))) + (own_ge p1 (215 : Int32))) + (own_ge p1 (216 : Int32))) + (own_ge p1 (247 : Int32))) + (own_ge p1 (248 : Int32))) + (own_ge p1 (768 : Int32))))])) (fun t k => st13 t k) ?_
  obtain ⟨Lp13, Xp13, Np13⟩ : ∃ L, Stand p l e ({ frames := 1, cells := 0, slots := 0, locals := 14 } : Room) s m #[(.int p1)] below meth c T13 L 0 0 ∧ Fr n0 L := ⟨_, X13, N13⟩
  clear X13 N13 N13q st13
  clear Xp12 Np12 e12
  clear Lp12 T12
  refine Goes.step (S' := T13.setTop (mkF m 97 #[.val (.int p1), .unset] [(.int (((((((((((((own_ge p1 (65 : Int32)) + (own_ge p1 (91 : Int32))) + (own_ge p1 (95 : Int32))) + (own_ge p1 (96 : Int32))) + (own_ge p1 (97 : Int32))) + (own_ge p1 (123 : Int32))) + (own_ge p1 (192 : Int32))) + (own_ge p1 (215 : Int32))) + (own_ge p1 (216 : Int32))) + (own_ge p1 (247 : Int32))) + (own_ge p1 (248 : Int32))) + (own_ge p1 (768 : Int32))) + (own_ge p1 (880 : Int32))))])) (fun t k => XS.iadd Xp13.here hx rfl (hb hby d2_96) rfl k) ?_
  refine Goes.step (S' := T13.setTop (mkF m 98 #[.val (.int p1), .unset] [(.int p1), (.int (((((((((((((own_ge p1 (65 : Int32)) + (own_ge p1 (91 : Int32))) + (own_ge p1 (95 : Int32))) + (own_ge p1 (96 : Int32))) + (own_ge p1 (97 : Int32))) + (own_ge p1 (123 : Int32))) + (own_ge p1 (192 : Int32))) + (own_ge p1 (215 : Int32))) + (own_ge p1 (216 : Int32))) + (own_ge p1 (247 : Int32))) + (own_ge p1 (248 : Int32))) + (own_ge p1 (768 : Int32))) + (own_ge p1 (880 : Int32))))])) (fun t k => XS.iloadN Xp13.here hx rfl (hb hby d2_97) rfl k) ?_
  refine Goes.step (S' := T13.setTop (mkF m 101 #[.val (.int p1), .unset] [(.int (894 : Int32)), (.int p1), (.int (((((((((((((own_ge p1 (65 : Int32)) + (own_ge p1 (91 : Int32))) + (own_ge p1 (95 : Int32))) + (own_ge p1 (96 : Int32))) + (own_ge p1 (97 : Int32))) + (own_ge p1 (123 : Int32))) + (own_ge p1 (192 : Int32))) + (own_ge p1 (215 : Int32))) + (own_ge p1 (216 : Int32))) + (own_ge p1 (247 : Int32))) + (own_ge p1 (248 : Int32))) + (own_ge p1 (768 : Int32))) + (own_ge p1 (880 : Int32))))])) (fun t k => XS.sipush Xp13.here hx rfl (hb hby d2_98) k) ?_
  obtain ⟨_, _, ⟨T14, L14, k14, n14⟩, -, X14, ⟨Lc14, hQ14, l14, y14, z14⟩, st14⟩ := Jvm.LawKit.callS Xp13 hx (y := (⟨"com/example/sapwood/sapwood/query/LexerIsNameStartPinLaw", "ge", "(II)I"⟩ : MethodName)) hown (mvT hZ (hw _ (List.mem_of_getElem? (i := 19) rfl))) (mvT hZ (hw _ (List.mem_of_getElem? (i := 20) rfl))) (mvT hZ (hw _ (List.mem_of_getElem? (i := 17) rfl))) (mvT hZ (hw _ (List.mem_of_getElem? (i := 21) rfl))) (by decide) (backOf (W := 1) (rm1 l Z a0 hw [] p1 (894 : Int32) h0 n0 Z0) hZ (hw _ (List.mem_of_getElem? (i := 21) rfl)) (hw _ (List.mem_of_getElem? (i := 17) rfl)) (by decide) (by decide)) (g := (mkF m 101 #[.val (.int p1), .unset] [(.int (894 : Int32)), (.int p1), (.int (((((((((((((own_ge p1 (65 : Int32)) + (own_ge p1 (91 : Int32))) + (own_ge p1 (95 : Int32))) + (own_ge p1 (96 : Int32))) + (own_ge p1 (97 : Int32))) + (own_ge p1 (123 : Int32))) + (own_ge p1 (192 : Int32))) + (own_ge p1 (215 : Int32))) + (own_ge p1 (216 : Int32))) + (own_ge p1 (247 : Int32))) + (own_ge p1 (248 : Int32))) + (own_ge p1 (768 : Int32))) + (own_ge p1 (880 : Int32))))])) rfl (by rw [hml]; rfl) (argsL := [(.int p1), (.int (894 : Int32))]) (rest := [(.int (((((((((((((own_ge p1 (65 : Int32)) + (own_ge p1 (91 : Int32))) + (own_ge p1 (95 : Int32))) + (own_ge p1 (96 : Int32))) + (own_ge p1 (97 : Int32))) + (own_ge p1 (123 : Int32))) + (own_ge p1 (192 : Int32))) + (own_ge p1 (215 : Int32))) + (own_ge p1 (216 : Int32))) + (own_ge p1 (247 : Int32))) + (own_ge p1 (248 : Int32))) + (own_ge p1 (768 : Int32))) + (own_ge p1 (880 : Int32))))]) (lenOf pd_1 rfl) rfl (by show 2 * 0 + _ ≤ _; exact Nat.le_of_eq rfl) (hb hby d2_101) (fun _ _ => ⟨rfl, e13, (by decide : 0 + 0 ≤ _), (by decide : 0 + 0 ≤ _)⟩)
  dsimp only [Pt.U, Pt.locs, Pt.cells, Pt.slots] at X14 l14 y14 z14 st14 hQ14
  subst l14 y14 z14
  obtain ⟨rfl, N14q, e14⟩ := hQ14
  have N14 := Fr.app Np13 N14q
  refine Goes.step (S' := T14.setTop (mkF m 104 #[.val (.int p1), .unset] [(.int (own_ge p1 (894 : Int32))), (.int (((((((((((((own_ge p1 (65 : Int32)) + (own_ge p1 (91 : Int32))) + (own_ge p1 (95 : Int32))) + (own_ge p1 (96 : Int32))) + (own_ge p1 (97 : Int32))) + (own_ge p1 (123 : Int32))) + (own_ge p1 (192 : Int32))) + (own_ge p1 (215 : Int32))) + (own_ge p1 (216 : Int32))) + (own_ge p1 (247 : Int32))) + (own_ge p1 (248 : Int32))) + (own_ge p1 (768 : Int32))) + (own_ge p1 (880 : Int32))))])) (fun t k => st14 t k) ?_
  obtain ⟨Lp14, Xp14, Np14⟩ : ∃ L, Stand p l e ({ frames := 1, cells := 0, slots := 0, locals := 14 } : Room) s m #[(.int p1)] below meth c T14 L 0 0 ∧ Fr n0 L := ⟨_, X14, N14⟩
  clear X14 N14 N14q st14
  clear Xp13 Np13 e13
  clear Lp13 T13
  refine Goes.step (S' := T14.setTop (mkF m 105 #[.val (.int p1), .unset] [(.int ((((((((((((((own_ge p1 (65 : Int32)) + (own_ge p1 (91 : Int32))) + (own_ge p1 (95 : Int32))) + (own_ge p1 (96 : Int32))) + (own_ge p1 (97 : Int32))) + (own_ge p1 (123 : Int32))) + (own_ge p1 (192 : Int32))) + (own_ge p1 (215 : Int32))) + (own_ge p1 (216 : Int32))) + (own_ge p1 (247 : Int32))) + (own_ge p1 (248 : Int32))) + (own_ge p1 (768 : Int32))) + (own_ge p1 (880 : Int32))) + (own_ge p1 (894 : Int32))))])) (fun t k => XS.iadd Xp14.here hx rfl (hb hby d2_104) rfl k) ?_
  refine Goes.step (S' := T14.setTop (mkF m 106 #[.val (.int p1), .unset] [(.int p1), (.int ((((((((((((((own_ge p1 (65 : Int32)) + (own_ge p1 (91 : Int32))) + (own_ge p1 (95 : Int32))) + (own_ge p1 (96 : Int32))) + (own_ge p1 (97 : Int32))) + (own_ge p1 (123 : Int32))) + (own_ge p1 (192 : Int32))) + (own_ge p1 (215 : Int32))) + (own_ge p1 (216 : Int32))) + (own_ge p1 (247 : Int32))) + (own_ge p1 (248 : Int32))) + (own_ge p1 (768 : Int32))) + (own_ge p1 (880 : Int32))) + (own_ge p1 (894 : Int32))))])) (fun t k => XS.iloadN Xp14.here hx rfl (hb hby d2_105) rfl k) ?_
  refine Goes.step (S' := T14.setTop (mkF m 109 #[.val (.int p1), .unset] [(.int (895 : Int32)), (.int p1), (.int ((((((((((((((own_ge p1 (65 : Int32)) + (own_ge p1 (91 : Int32))) + (own_ge p1 (95 : Int32))) + (own_ge p1 (96 : Int32))) + (own_ge p1 (97 : Int32))) + (own_ge p1 (123 : Int32))) + (own_ge p1 (192 : Int32))) + (own_ge p1 (215 : Int32))) + (own_ge p1 (216 : Int32))) + (own_ge p1 (247 : Int32))) + (own_ge p1 (248 : Int32))) + (own_ge p1 (768 : Int32))) + (own_ge p1 (880 : Int32))) + (own_ge p1 (894 : Int32))))])) (fun t k => XS.sipush Xp14.here hx rfl (hb hby d2_106) k) ?_
  obtain ⟨_, _, ⟨T15, L15, k15, n15⟩, -, X15, ⟨Lc15, hQ15, l15, y15, z15⟩, st15⟩ := Jvm.LawKit.callS Xp14 hx (y := (⟨"com/example/sapwood/sapwood/query/LexerIsNameStartPinLaw", "ge", "(II)I"⟩ : MethodName)) hown (mvT hZ (hw _ (List.mem_of_getElem? (i := 19) rfl))) (mvT hZ (hw _ (List.mem_of_getElem? (i := 20) rfl))) (mvT hZ (hw _ (List.mem_of_getElem? (i := 17) rfl))) (mvT hZ (hw _ (List.mem_of_getElem? (i := 21) rfl))) (by decide) (backOf (W := 1) (rm1 l Z a0 hw [] p1 (895 : Int32) h0 n0 Z0) hZ (hw _ (List.mem_of_getElem? (i := 21) rfl)) (hw _ (List.mem_of_getElem? (i := 17) rfl)) (by decide) (by decide)) (g := (mkF m 109 #[.val (.int p1), .unset] [(.int (895 : Int32)), (.int p1), (.int ((((((((((((((own_ge p1 (65 : Int32)) + (own_ge p1 (91 : Int32))) + (own_ge p1 (95 : Int32))) + (own_ge p1 (96 : Int32))) + (own_ge p1 (97 : Int32))) + (own_ge p1 (123 : Int32))) + (own_ge p1 (192 : Int32))) + (own_ge p1 (215 : Int32))) + (own_ge p1 (216 : Int32))) + (own_ge p1 (247 : Int32))) + (own_ge p1 (248 : Int32))) + (own_ge p1 (768 : Int32))) + (own_ge p1 (880 : Int32))) + (own_ge p1 (894 : Int32))))])) rfl (by rw [hml]; rfl) (argsL := [(.int p1), (.int (895 : Int32))]) (rest := [(.int ((((((((((((((own_ge p1 (65 : Int32)) + (own_ge p1 (91 : Int32))) + (own_ge p1 (95 : Int32))) + (own_ge p1 (96 : Int32))) + (own_ge p1 (97 : Int32))) + (own_ge p1 (123 : Int32))) + (own_ge p1 (192 : Int32))) + (own_ge p1 (215 : Int32))) + (own_ge p1 (216 : Int32))) + (own_ge p1 (247 : Int32))) + (own_ge p1 (248 : Int32))) + (own_ge p1 (768 : Int32))) + (own_ge p1 (880 : Int32))) + (own_ge p1 (894 : Int32))))]) (lenOf pd_1 rfl) rfl (by show 2 * 0 + _ ≤ _; exact Nat.le_of_eq rfl) (hb hby d2_109) (fun _ _ => ⟨rfl, e14, (by decide : 0 + 0 ≤ _), (by decide : 0 + 0 ≤ _)⟩)
  dsimp only [Pt.U, Pt.locs, Pt.cells, Pt.slots] at X15 l15 y15 z15 st15 hQ15
  subst l15 y15 z15
  obtain ⟨rfl, N15q, e15⟩ := hQ15
  have N15 := Fr.app Np14 N15q
  refine Goes.step (S' := T15.setTop (mkF m 112 #[.val (.int p1), .unset] [(.int (own_ge p1 (895 : Int32))), (.int ((((((((((((((own_ge p1 (65 : Int32)) + (own_ge p1 (91 : Int32))) + (own_ge p1 (95 : Int32))) + (own_ge p1 (96 : Int32))) + (own_ge p1 (97 : Int32))) + (own_ge p1 (123 : Int32))) + (own_ge p1 (192 : Int32))) + (own_ge p1 (215 : Int32))) + (own_ge p1 (216 : Int32))) + (own_ge p1 (247 : Int32))) + (own_ge p1 (248 : Int32))) + (own_ge p1 (768 : Int32))) + (own_ge p1 (880 : Int32))) + (own_ge p1 (894 : Int32))))])) (fun t k => st15 t k) ?_
  obtain ⟨Lp15, Xp15, Np15⟩ : ∃ L, Stand p l e ({ frames := 1, cells := 0, slots := 0, locals := 14 } : Room) s m #[(.int p1)] below meth c T15 L 0 0 ∧ Fr n0 L := ⟨_, X15, N15⟩
  clear X15 N15 N15q st15
  clear Xp14 Np14 e14
  clear Lp14 T14
  refine Goes.step (S' := T15.setTop (mkF m 113 #[.val (.int p1), .unset] [(.int (((((((((((((((own_ge p1 (65 : Int32)) + (own_ge p1 (91 : Int32))) + (own_ge p1 (95 : Int32))) + (own_ge p1 (96 : Int32))) + (own_ge p1 (97 : Int32))) + (own_ge p1 (123 : Int32))) + (own_ge p1 (192 : Int32))) + (own_ge p1 (215 : Int32))) + (own_ge p1 (216 : Int32))) + (own_ge p1 (247 : Int32))) + (own_ge p1 (248 : Int32))) + (own_ge p1 (768 : Int32))) + (own_ge p1 (880 : Int32))) + (own_ge p1 (894 : Int32))) + (own_ge p1 (895 : Int32))))])) (fun t k => XS.iadd Xp15.here hx rfl (hb hby d2_112) rfl k) ?_
  refine Goes.step (S' := T15.setTop (mkF m 114 #[.val (.int p1), .unset] [(.int p1), (.int (((((((((((((((own_ge p1 (65 : Int32)) + (own_ge p1 (91 : Int32))) + (own_ge p1 (95 : Int32))) + (own_ge p1 (96 : Int32))) + (own_ge p1 (97 : Int32))) + (own_ge p1 (123 : Int32))) + (own_ge p1 (192 : Int32))) + (own_ge p1 (215 : Int32))) + (own_ge p1 (216 : Int32))) + (own_ge p1 (247 : Int32))) + (own_ge p1 (248 : Int32))) + (own_ge p1 (768 : Int32))) + (own_ge p1 (880 : Int32))) + (own_ge p1 (894 : Int32))) + (own_ge p1 (895 : Int32))))])) (fun t k => XS.iloadN Xp15.here hx rfl (hb hby d2_113) rfl k) ?_
  refine Goes.step (S' := T15.setTop (mkF m 117 #[.val (.int p1), .unset] [(.int (8192 : Int32)), (.int p1), (.int (((((((((((((((own_ge p1 (65 : Int32)) + (own_ge p1 (91 : Int32))) + (own_ge p1 (95 : Int32))) + (own_ge p1 (96 : Int32))) + (own_ge p1 (97 : Int32))) + (own_ge p1 (123 : Int32))) + (own_ge p1 (192 : Int32))) + (own_ge p1 (215 : Int32))) + (own_ge p1 (216 : Int32))) + (own_ge p1 (247 : Int32))) + (own_ge p1 (248 : Int32))) + (own_ge p1 (768 : Int32))) + (own_ge p1 (880 : Int32))) + (own_ge p1 (894 : Int32))) + (own_ge p1 (895 : Int32))))])) (fun t k => XS.sipush Xp15.here hx rfl (hb hby d2_114) k) ?_
  obtain ⟨_, _, ⟨T16, L16, k16, n16⟩, -, X16, ⟨Lc16, hQ16, l16, y16, z16⟩, st16⟩ := Jvm.LawKit.callS Xp15 hx (y := (⟨"com/example/sapwood/sapwood/query/LexerIsNameStartPinLaw", "ge", "(II)I"⟩ : MethodName)) hown (mvT hZ (hw _ (List.mem_of_getElem? (i := 19) rfl))) (mvT hZ (hw _ (List.mem_of_getElem? (i := 20) rfl))) (mvT hZ (hw _ (List.mem_of_getElem? (i := 17) rfl))) (mvT hZ (hw _ (List.mem_of_getElem? (i := 21) rfl))) (by decide) (backOf (W := 1) (rm1 l Z a0 hw [] p1 (8192 : Int32) h0 n0 Z0) hZ (hw _ (List.mem_of_getElem? (i := 21) rfl)) (hw _ (List.mem_of_getElem? (i := 17) rfl)) (by decide) (by decide)) (g := (mkF m 117 #[.val (.int p1), .unset] [(.int (8192 : Int32)), (.int p1), (.int (((((((((((((((own_ge p1 (65 : Int32)) + (own_ge p1 (91 : Int32))) + (own_ge p1 (95 : Int32))) + (own_ge p1 (96 : Int32))) + (own_ge p1 (97 : Int32))) + (own_ge p1 (123 : Int32))) + (own_ge p1 (192 : Int32))) + (own_ge p1 (215 : Int32))) + (own_ge p1 (216 : Int32))) + (own_ge p1 (247 : Int32))) + (own_ge p1 (248 : Int32))) + (own_ge p1 (768 : Int32))) + (own_ge p1 (880 : Int32))) + (own_ge p1 (894 : Int32))) + (own_ge p1 (895 : Int32))))])) rfl (by rw [hml]; rfl) (argsL := [(.int p1), (.int (8192 : Int32))]) (rest := [(.int (((((((((((((((own_ge p1 (65 : Int32)) + (own_ge p1 (91 : Int32))) + (own_ge p1 (95 : Int32))) + (own_ge p1 (96 : Int32))) + (own_ge p1 (97 : Int32))) + (own_ge p1 (123 : Int32))) + (own_ge p1 (192 : Int32))) + (own_ge p1 (215 : Int32))) + (own_ge p1 (216 : Int32))) + (own_ge p1 (247 : Int32))) + (own_ge p1 (248 : Int32))) + (own_ge p1 (768 : Int32))) + (own_ge p1 (880 : Int32))) + (own_ge p1 (894 : Int32))) + (own_ge p1 (895 : Int32))))]) (lenOf pd_1 rfl) rfl (by show 2 * 0 + _ ≤ _; exact Nat.le_of_eq rfl) (hb hby d2_117) (fun _ _ => ⟨rfl, e15, (by decide : 0 + 0 ≤ _), (by decide : 0 + 0 ≤ _)⟩)
  dsimp only [Pt.U, Pt.locs, Pt.cells, Pt.slots] at X16 l16 y16 z16 st16 hQ16
  subst l16 y16 z16
  obtain ⟨rfl, N16q, e16⟩ := hQ16
  have N16 := Fr.app Np15 N16q
  refine Goes.step (S' := T16.setTop (mkF m 120 #[.val (.int p1), .unset] [(.int (own_ge p1 (8192 : Int32))), (.int (((((((((((((((own_ge p1 (65 : Int32)) + (own_ge p1 (91 : Int32))) + (own_ge p1 (95 : Int32))) + (own_ge p1 (96 : Int32))) + (own_ge p1 (97 : Int32))) + (own_ge p1 (123 : Int32))) + (own_ge p1 (192 : Int32))) + (own_ge p1 (215 : Int32))) + (own_ge p1 (216 : Int32))) + (own_ge p1 (247 : Int32))) + (own_ge p1 (248 : Int32))) + (own_ge p1 (768 : Int32))) + (own_ge p1 (880 : Int32))) + (own_ge p1 (894 : Int32))) + (own_ge p1 (895 : Int32))))])) (fun t k => st16 t k) ?_
  obtain ⟨Lp16, Xp16, Np16⟩ : ∃ L, Stand p l e ({ frames := 1, cells := 0, slots := 0, locals := 14 } : Room) s m #[(.int p1)] below meth c T16 L 0 0 ∧ Fr n0 L := ⟨_, X16, N16⟩
  clear X16 N16 N16q st16
  clear Xp15 Np15 e15
  clear Lp15 T15
  refine Goes.step (S' := T16.setTop (mkF m 121 #[.val (.int p1), .unset] [(.int ((((((((((((((((own_ge p1 (65 : Int32)) + (own_ge p1 (91 : Int32))) + (own_ge p1 (95 : Int32))) + (own_ge p1 (96 : Int32))) + (own_ge p1 (97 : Int32))) + (own_ge p1 (123 : Int32))) + (own_ge p1 (192 : Int32))) + (own_ge p1 (215 : Int32))) + (own_ge p1 (216 : Int32))) + (own_ge p1 (247 : Int32))) + (own_ge p1 (248 : Int32))) + (own_ge p1 (768 : Int32))) + (own_ge p1 (880 : Int32))) + (own_ge p1 (894 : Int32))) + (own_ge p1 (895 : Int32))) + (own_ge p1 (8192 : Int32))))])) (fun t k => XS.iadd Xp16.here hx rfl (hb hby d2_120) rfl k) ?_
  refine Goes.step (S' := T16.setTop (mkF m 122 #[.val (.int p1), .unset] [(.int p1), (.int ((((((((((((((((own_ge p1 (65 : Int32)) + (own_ge p1 (91 : Int32))) + (own_ge p1 (95 : Int32))) + (own_ge p1 (96 : Int32))) + (own_ge p1 (97 : Int32))) + (own_ge p1 (123 : Int32))) + (own_ge p1 (192 : Int32))) + (own_ge p1 (215 : Int32))) + (own_ge p1 (216 : Int32))) + (own_ge p1 (247 : Int32))) + (own_ge p1 (248 : Int32))) + (own_ge p1 (768 : Int32))) + (own_ge p1 (880 : Int32))) + (own_ge p1 (894 : Int32))) + (own_ge p1 (895 : Int32))) + (own_ge p1 (8192 : Int32))))])) (fun t k => XS.iloadN Xp16.here hx rfl (hb hby d2_121) rfl k) ?_
  refine Goes.step (S' := T16.setTop (mkF m 125 #[.val (.int p1), .unset] [(.int (8204 : Int32)), (.int p1), (.int ((((((((((((((((own_ge p1 (65 : Int32)) + (own_ge p1 (91 : Int32))) + (own_ge p1 (95 : Int32))) + (own_ge p1 (96 : Int32))) + (own_ge p1 (97 : Int32))) + (own_ge p1 (123 : Int32))) + (own_ge p1 (192 : Int32))) + (own_ge p1 (215 : Int32))) + (own_ge p1 (216 : Int32))) + (own_ge p1 (247 : Int32))) + (own_ge p1 (248 : Int32))) + (own_ge p1 (768 : Int32))) + (own_ge p1 (880 : Int32))) + (own_ge p1 (894 : Int32))) + (own_ge p1 (895 : Int32))) + (own_ge p1 (8192 : Int32))))])) (fun t k => XS.sipush Xp16.here hx rfl (hb hby d2_122) k) ?_
  obtain ⟨_, _, ⟨T17, L17, k17, n17⟩, -, X17, ⟨Lc17, hQ17, l17, y17, z17⟩, st17⟩ := Jvm.LawKit.callS Xp16 hx (y := (⟨"com/example/sapwood/sapwood/query/LexerIsNameStartPinLaw", "ge", "(II)I"⟩ : MethodName)) hown (mvT hZ (hw _ (List.mem_of_getElem? (i := 19) rfl))) (mvT hZ (hw _ (List.mem_of_getElem? (i := 20) rfl))) (mvT hZ (hw _ (List.mem_of_getElem? (i := 17) rfl))) (mvT hZ (hw _ (List.mem_of_getElem? (i := 21) rfl))) (by decide) (backOf (W := 1) (rm1 l Z a0 hw [] p1 (8204 : Int32) h0 n0 Z0) hZ (hw _ (List.mem_of_getElem? (i := 21) rfl)) (hw _ (List.mem_of_getElem? (i := 17) rfl)) (by decide) (by decide)) (g := (mkF m 125 #[.val (.int p1), .unset] [(.int (8204 : Int32)), (.int p1), (.int ((((((((((((((((own_ge p1 (65 : Int32)) + (own_ge p1 (91 : Int32))) + (own_ge p1 (95 : Int32))) + (own_ge p1 (96 : Int32))) + (own_ge p1 (97 : Int32))) + (own_ge p1 (123 : Int32))) + (own_ge p1 (192 : Int32))) + (own_ge p1 (215 : Int32))) + (own_ge p1 (216 : Int32))) + (own_ge p1 (247 : Int32))) + (own_ge p1 (248 : Int32))) + (own_ge p1 (768 : Int32))) + (own_ge p1 (880 : Int32))) + (own_ge p1 (894 : Int32))) + (own_ge p1 (895 : Int32))) + (own_ge p1 (8192 : Int32))))])) rfl (by rw [hml]; rfl) (argsL := [(.int p1), (.int (8204 : Int32))]) (rest := [(.int ((((((((((((((((own_ge p1 (65 : Int32)) + (own_ge p1 (91 : Int32))) + (own_ge p1 (95 : Int32))) + (own_ge p1 (96 : Int32))) + (own_ge p1 (97 : Int32))) + (own_ge p1 (123 : Int32))) + (own_ge p1 (192 : Int32))) + (own_ge p1 (215 : Int32))) + (own_ge p1 (216 : Int32))) + (own_ge p1 (247 : Int32))) + (own_ge p1 (248 : Int32))) + (own_ge p1 (768 : Int32))) + (own_ge p1 (880 : Int32))) + (own_ge p1 (894 : Int32))) + (own_ge p1 (895 : Int32))) + (own_ge p1 (8192 : Int32))))]) (lenOf pd_1 rfl) rfl (by show 2 * 0 + _ ≤ _; exact Nat.le_of_eq rfl) (hb hby d2_125) (fun _ _ => ⟨rfl, e16, (by decide : 0 + 0 ≤ _), (by decide : 0 + 0 ≤ _)⟩)
  dsimp only [Pt.U, Pt.locs, Pt.cells, Pt.slots] at X17 l17 y17 z17 st17 hQ17
  subst l17 y17 z17
  obtain ⟨rfl, N17q, e17⟩ := hQ17
  have N17 := Fr.app Np16 N17q
  refine Goes.step (S' := T17.setTop (mkF m 128 #[.val (.int p1), .unset] [(.int (own_ge p1 (8204 : Int32))), (.int ((((((((((((((((own_ge p1 (65 : Int32)) + (own_ge p1 (91 : Int32))) + (own_ge p1 (95 : Int32))) + (own_ge p1 (96 : Int32))) + (own_ge p1 (97 : Int32))) + (own_ge p1 (123 : Int32))) + (own_ge p1 (192 : Int32))) + (own_ge p1 (215 : Int32))) + (own_ge p1 (216 : Int32))) + (own_ge p1 (247 : Int32))) + (own_ge p1 (248 : Int32))) + (own_ge p1 (768 : Int32))) + (own_ge p1 (880 : Int32))) + (own_ge p1 (894 : Int32))) + (own_ge p1 (895 : Int32))) + (own_ge p1 (8192 : Int32))))])) (fun t k => st17 t k) ?_
  obtain ⟨Lp17, Xp17, Np17⟩ : ∃ L, Stand p l e ({ frames := 1, cells := 0, slots := 0, locals := 14 } : Room) s m #[(.int p1)] below meth c T17 L 0 0 ∧ Fr n0 L := ⟨_, X17, N17⟩
  clear X17 N17 N17q st17
  clear Xp16 Np16 e16
  clear Lp16 T16
  refine Goes.step (S' := T17.setTop (mkF m 129 #[.val (.int p1), .unset] [(.int (((((((((((((((((own_ge p1 (65 : Int32)) + (own_ge p1 (91 : Int32))) + (own_ge p1 (95 : Int32))) + (own_ge p1 (96 : Int32))) + (own_ge p1 (97 : Int32))) + (own_ge p1 (123 : Int32))) + (own_ge p1 (192 : Int32))) + (own_ge p1 (215 : Int32))) + (own_ge p1 (216 : Int32))) + (own_ge p1 (247 : Int32))) + (own_ge p1 (248 : Int32))) + (own_ge p1 (768 : Int32))) + (own_ge p1 (880 : Int32))) + (own_ge p1 (894 : Int32))) + (own_ge p1 (895 : Int32))) + (own_ge p1 (8192 : Int32))) + (own_ge p1 (8204 : Int32))))])) (fun t k => XS.iadd Xp17.here hx rfl (hb hby d2_128) rfl k) ?_
  refine Goes.step (S' := T17.setTop (mkF m 130 #[.val (.int p1), .unset] [(.int p1), (.int (((((((((((((((((own_ge p1 (65 : Int32)) + (own_ge p1 (91 : Int32))) + (own_ge p1 (95 : Int32))) + (own_ge p1 (96 : Int32))) + (own_ge p1 (97 : Int32))) + (own_ge p1 (123 : Int32))) + (own_ge p1 (192 : Int32))) + (own_ge p1 (215 : Int32))) + (own_ge p1 (216 : Int32))) + (own_ge p1 (247 : Int32))) + (own_ge p1 (248 : Int32))) + (own_ge p1 (768 : Int32))) + (own_ge p1 (880 : Int32))) + (own_ge p1 (894 : Int32))) + (own_ge p1 (895 : Int32))) + (own_ge p1 (8192 : Int32))) + (own_ge p1 (8204 : Int32))))])) (fun t k => XS.iloadN Xp17.here hx rfl (hb hby d2_129) rfl k) ?_
  refine Goes.step (S' := T17.setTop (mkF m 133 #[.val (.int p1), .unset] [(.int (8206 : Int32)), (.int p1), (.int (((((((((((((((((own_ge p1 (65 : Int32)) + (own_ge p1 (91 : Int32))) + (own_ge p1 (95 : Int32))) + (own_ge p1 (96 : Int32))) + (own_ge p1 (97 : Int32))) + (own_ge p1 (123 : Int32))) + (own_ge p1 (192 : Int32))) + (own_ge p1 (215 : Int32))) + (own_ge p1 (216 : Int32))) + (own_ge p1 (247 : Int32))) + (own_ge p1 (248 : Int32))) + (own_ge p1 (768 : Int32))) + (own_ge p1 (880 : Int32))) + (own_ge p1 (894 : Int32))) + (own_ge p1 (895 : Int32))) + (own_ge p1 (8192 : Int32))) + (own_ge p1 (8204 : Int32))))])) (fun t k => XS.sipush Xp17.here hx rfl (hb hby d2_130) k) ?_
  obtain ⟨_, _, ⟨T18, L18, k18, n18⟩, -, X18, ⟨Lc18, hQ18, l18, y18, z18⟩, st18⟩ := Jvm.LawKit.callS Xp17 hx (y := (⟨"com/example/sapwood/sapwood/query/LexerIsNameStartPinLaw", "ge", "(II)I"⟩ : MethodName)) hown (mvT hZ (hw _ (List.mem_of_getElem? (i := 19) rfl))) (mvT hZ (hw _ (List.mem_of_getElem? (i := 20) rfl))) (mvT hZ (hw _ (List.mem_of_getElem? (i := 17) rfl))) (mvT hZ (hw _ (List.mem_of_getElem? (i := 21) rfl))) (by decide) (backOf (W := 1) (rm1 l Z a0 hw [] p1 (8206 : Int32) h0 n0 Z0) hZ (hw _ (List.mem_of_getElem? (i := 21) rfl)) (hw _ (List.mem_of_getElem? (i := 17) rfl)) (by decide) (by decide)) (g := (mkF m 133 #[.val (.int p1), .unset] [(.int (8206 : Int32)), (.int p1), (.int (((((((((((((((((own_ge p1 (65 : Int32)) + (own_ge p1 (91 : Int32))) + (own_ge p1 (95 : Int32))) + (own_ge p1 (96 : Int32))) + (own_ge p1 (97 : Int32))) + (own_ge p1 (123 : Int32))) + (own_ge p1 (192 : Int32))) + (own_ge p1 (215 : Int32))) + (own_ge p1 (216 : Int32))) + (own_ge p1 (247 : Int32))) + (own_ge p1 (248 : Int32))) + (own_ge p1 (768 : Int32))) + (own_ge p1 (880 : Int32))) + (own_ge p1 (894 : Int32))) + (own_ge p1 (895 : Int32))) + (own_ge p1 (8192 : Int32))) + (own_ge p1 (8204 : Int32))))])) rfl (by rw [hml]; rfl) (argsL := [(.int p1), (.int (8206 : Int32))]) (rest := [(.int (((((((((((((((((own_ge p1 (65 : Int32)) + (own_ge p1 (91 : Int32))) + (own_ge p1 (95 : Int32))) + (own_ge p1 (96 : Int32))) + (own_ge p1 (97 : Int32))) + (own_ge p1 (123 : Int32))) + (own_ge p1 (192 : Int32))) + (own_ge p1 (215 : Int32))) + (own_ge p1 (216 : Int32))) + (own_ge p1 (247 : Int32))) + (own_ge p1 (248 : Int32))) + (own_ge p1 (768 : Int32))) + (own_ge p1 (880 : Int32))) + (own_ge p1 (894 : Int32))) + (own_ge p1 (895 : Int32))) + (own_ge p1 (8192 : Int32))) + (own_ge p1 (8204 : Int32))))]) (lenOf pd_1 rfl) rfl (by show 2 * 0 + _ ≤ _; exact Nat.le_of_eq rfl) (hb hby d2_133) (fun _ _ => ⟨rfl, e17, (by decide : 0 + 0 ≤ _), (by decide : 0 + 0 ≤ _)⟩)
  dsimp only [Pt.U, Pt.locs, Pt.cells, Pt.slots] at X18 l18 y18 z18 st18 hQ18
  subst l18 y18 z18
  obtain ⟨rfl, N18q, e18⟩ := hQ18
  have N18 := Fr.app Np17 N18q
  refine Goes.step (S' := T18.setTop (mkF m 136 #[.val (.int p1), .unset] [(.int (own_ge p1 (8206 : Int32))), (.int (((((((((((((((((own_ge p1 (65 : Int32)) + (own_ge p1 (91 : Int32))) + (own_ge p1 (95 : Int32))) + (own_ge p1 (96 : Int32))) + (own_ge p1 (97 : Int32))) + (own_ge p1 (123 : Int32))) + (own_ge p1 (192 : Int32))) + (own_ge p1 (215 : Int32))) + (own_ge p1 (216 : Int32))) + (own_ge p1 (247 : Int32))) + (own_ge p1 (248 : Int32))) + (own_ge p1 (768 : Int32))) + (own_ge p1 (880 : Int32))) + (own_ge p1 (894 : Int32))) + (own_ge p1 (895 : Int32))) + (own_ge p1 (8192 : Int32))) + (own_ge p1 (8204 : Int32))))])) (fun t k => st18 t k) ?_
  obtain ⟨Lp18, Xp18, Np18⟩ : ∃ L, Stand p l e ({ frames := 1, cells := 0, slots := 0, locals := 14 } : Room) s m #[(.int p1)] below meth c T18 L 0 0 ∧ Fr n0 L := ⟨_, X18, N18⟩
  clear X18 N18 N18q st18
  clear Xp17 Np17 e17
  clear Lp17 T17
  refine Goes.step (S' := T18.setTop (mkF m 137 #[.val (.int p1), .unset] [(.int ((((((((((((((((((own_ge p1 (65 : Int32)) + (own_ge p1 (91 : Int32))) + (own_ge p1 (95 : Int32))) + (own_ge p1 (96 : Int32))) + (own_ge p1 (97 : Int32))) + (own_ge p1 (123 : Int32))) + (own_ge p1 (192 : Int32))) + (own_ge p1 (215 : Int32))) + (own_ge p1 (216 : Int32))) + (own_ge p1 (247 : Int32))) + (own_ge p1 (248 : Int32))) + (own_ge p1 (768 : Int32))) + (own_ge p1 (880 : Int32))) + (own_ge p1 (894 : Int32))) + (own_ge p1 (895 : Int32))) + (own_ge p1 (8192 : Int32))) + (own_ge p1 (8204 : Int32))) + (own_ge p1 (8206 : Int32))))])) (fun t k => XS.iadd Xp18.here hx rfl (hb hby d2_136) rfl k) ?_
  refine Goes.step (S' := T18.setTop (mkF m 138 #[.val (.int p1), .unset] [(.int p1), (.int ((((((((((((((((((own_ge p1 (65 : Int32)) + (own_ge p1 (91 : Int32))) + (own_ge p1 (95 : Int32))) + (own_ge p1 (96 : Int32))) + (own_ge p1 (97 : Int32))) + (own_ge p1 (123 : Int32))) + (own_ge p1 (192 : Int32))) + (own_ge p1 (215 : Int32))) + (own_ge p1 (216 : Int32))) + (own_ge p1 (247 : Int32))) + (own_ge p1 (248 : Int32))) + (own_ge p1 (768 : Int32))) + (own_ge p1 (880 : Int32))) + (own_ge p1 (894 : Int32))) + (own_ge p1 (895 : Int32))) + (own_ge p1 (8192 : Int32))) + (own_ge p1 (8204 : Int32))) + (own_ge p1 (8206 : Int32))))])) (fun t k => XS.iloadN Xp18.here hx rfl (hb hby d2_137) rfl k) ?_
  refine Goes.step (S' := T18.setTop (mkF m 141 #[.val (.int p1), .unset] [(.int (8304 : Int32)), (.int p1), (.int ((((((((((((((((((own_ge p1 (65 : Int32)) + (own_ge p1 (91 : Int32))) + (own_ge p1 (95 : Int32))) + (own_ge p1 (96 : Int32))) + (own_ge p1 (97 : Int32))) + (own_ge p1 (123 : Int32))) + (own_ge p1 (192 : Int32))) + (own_ge p1 (215 : Int32))) + (own_ge p1 (216 : Int32))) + (own_ge p1 (247 : Int32))) + (own_ge p1 (248 : Int32))) + (own_ge p1 (768 : Int32))) + (own_ge p1 (880 : Int32))) + (own_ge p1 (894 : Int32))) + (own_ge p1 (895 : Int32))) + (own_ge p1 (8192 : Int32))) + (own_ge p1 (8204 : Int32))) + (own_ge p1 (8206 : Int32))))])) (fun t k => XS.sipush Xp18.here hx rfl (hb hby d2_138) k) ?_
  obtain ⟨_, _, ⟨T19, L19, k19, n19⟩, -, X19, ⟨Lc19, hQ19, l19, y19, z19⟩, st19⟩ := Jvm.LawKit.callS Xp18 hx (y := (⟨"com/example/sapwood/sapwood/query/LexerIsNameStartPinLaw", "ge", "(II)I"⟩ : MethodName)) hown (mvT hZ (hw _ (List.mem_of_getElem? (i := 19) rfl))) (mvT hZ (hw _ (List.mem_of_getElem? (i := 20) rfl))) (mvT hZ (hw _ (List.mem_of_getElem? (i := 17) rfl))) (mvT hZ (hw _ (List.mem_of_getElem? (i := 21) rfl))) (by decide) (backOf (W := 1) (rm1 l Z a0 hw [] p1 (8304 : Int32) h0 n0 Z0) hZ (hw _ (List.mem_of_getElem? (i := 21) rfl)) (hw _ (List.mem_of_getElem? (i := 17) rfl)) (by decide) (by decide)) (g := (mkF m 141 #[.val (.int p1), .unset] [(.int (8304 : Int32)), (.int p1), (.int ((((((((((((((((((own_ge p1 (65 : Int32)) + (own_ge p1 (91 : Int32))) + (own_ge p1 (95 : Int32))) + (own_ge p1 (96 : Int32))) + (own_ge p1 (97 : Int32))) + (own_ge p1 (123 : Int32))) + (own_ge p1 (192 : Int32))) + (own_ge p1 (215 : Int32))) + (own_ge p1 (216 : Int32))) + (own_ge p1 (247 : Int32))) + (own_ge p1 (248 : Int32))) + (own_ge p1 (768 : Int32))) + (own_ge p1 (880 : Int32))) + (own_ge p1 (894 : Int32))) + (own_ge p1 (895 : Int32))) + (own_ge p1 (8192 : Int32))) + (own_ge p1 (8204 : Int32))) + (own_ge p1 (8206 : Int32))))])) rfl (by rw [hml]; rfl) (argsL := [(.int p1), (.int (8304 : Int32))]) (rest := [(.int ((((((((((((((((((own_ge p1 (65 : Int32)) + (own_ge p1 (91 : Int32))) + (own_ge p1 (95 : Int32))) + (own_ge p1 (96 : Int32))) + (own_ge p1 (97 : Int32))) + (own_ge p1 (123 : Int32))) + (own_ge p1 (192 : Int32))) + (own_ge p1 (215 : Int32))) + (own_ge p1 (216 : Int32))) + (own_ge p1 (247 : Int32))) + (own_ge p1 (248 : Int32))) + (own_ge p1 (768 : Int32))) + (own_ge p1 (880 : Int32))) + (own_ge p1 (894 : Int32))) + (own_ge p1 (895 : Int32))) + (own_ge p1 (8192 : Int32))) + (own_ge p1 (8204 : Int32))) + (own_ge p1 (8206 : Int32))))]) (lenOf pd_1 rfl) rfl (by show 2 * 0 + _ ≤ _; exact Nat.le_of_eq rfl) (hb hby d2_141) (fun _ _ => ⟨rfl, e18, (by decide : 0 + 0 ≤ _), (by decide : 0 + 0 ≤ _)⟩)
  dsimp only [Pt.U, Pt.locs, Pt.cells, Pt.slots] at X19 l19 y19 z19 st19 hQ19
  subst l19 y19 z19
  obtain ⟨rfl, N19q, e19⟩ := hQ19
  have N19 := Fr.app Np18 N19q
  refine Goes.step (S' := T19.setTop (mkF m 144 #[.val (.int p1), .unset] [(.int (own_ge p1 (8304 : Int32))), (.int ((((((((((((((((((own_ge p1 (65 : Int32)) + (own_ge p1 (91 : Int32))) + (own_ge p1 (95 : Int32))) + (own_ge p1 (96 : Int32))) + (own_ge p1 (97 : Int32))) + (own_ge p1 (123 : Int32))) + (own_ge p1 (192 : Int32))) + (own_ge p1 (215 : Int32))) + (own_ge p1 (216 : Int32))) + (own_ge p1 (247 : Int32))) + (own_ge p1 (248 : Int32))) + (own_ge p1 (768 : Int32))) + (own_ge p1 (880 : Int32))) + (own_ge p1 (894 : Int32))) + (own_ge p1 (895 : Int32))) + (own_ge p1 (8192 : Int32))) + (own_ge p1 (8204 : Int32))) + (own_ge p1 (8206 : Int32))))])) (fun t k => st19 t k) ?_
  obtain ⟨Lp19, Xp19, Np19⟩ : ∃ L, Stand p l e ({ frames := 1, cells := 0, slots := 0, locals := 14 } : Room) s m #[(.int p1)] below meth c T19 L 0 0 ∧ Fr n0 L := ⟨_, X19, N19⟩
  clear X19 N19 N19q st19
  clear Xp18 Np18 e18
  clear Lp18 T18
  refine Goes.step (S' := T19.setTop (mkF m 145 #[.val (.int p1), .unset] [(.int (((((((((((((((((((own_ge p1 (65 : Int32)) + (own_ge p1 (91 : Int32))) + (own_ge p1 (95 : Int32))) + (own_ge p1 (96 : Int32))) + (own_ge p1 (97 : Int32))) + (own_ge p1 (123 : Int32))) + (own_ge p1 (192 : Int32))) + (own_ge p1 (215 : Int32))) + (own_ge p1 (216 : Int32))) + (own_ge p1 (247 : Int32))) + (own_ge p1 (248 : Int32))) + (own_ge p1 (768 : Int32))) + (own_ge p1 (880 : Int32))) + (own_ge p1 (894 : Int32))) + (own_ge p1 (895 : Int32))) + (own_ge p1 (8192 : Int32))) + (own_ge p1 (8204 : Int32))) + (own_ge p1 (8206 : Int32))) + (own_ge p1 (8304 : Int32))))])) (fun t k => XS.iadd Xp19.here hx rfl (hb hby d2_144) rfl k) ?_
  refine Goes.step (S' := T19.setTop (mkF m 146 #[.val (.int p1), .unset] [(.int p1), (.int (((((((((((((((((((own_ge p1 (65 : Int32)) + (own_ge p1 (91 : Int32))) + (own_ge p1 (95 : Int32))) + (own_ge p1 (96 : Int32))) + (own_ge p1 (97 : Int32))) + (own_ge p1 (123 : Int32))) + (own_ge p1 (192 : Int32))) + (own_ge p1 (215 : Int32))) + (own_ge p1 (216 : Int32))) + (own_ge p1 (247 : Int32))) + (own_ge p1 (248 : Int32))) + (own_ge p1 (768 : Int32))) + (own_ge p1 (880 : Int32))) + (own_ge p1 (894 : Int32))) + (own_ge p1 (895 : Int32))) + (own_ge p1 (8192 : Int32))) + (own_ge p1 (8204 : Int32))) + (own_ge p1 (8206 : Int32))) + (own_ge p1 (8304 : Int32))))])) (fun t k => XS.iloadN Xp19.here hx rfl (hb hby d2_145) rfl k) ?_
  refine Goes.step (S' := T19.setTop (mkF m 149 #[.val (.int p1), .unset] [(.int (8592 : Int32)), (.int p1), (.int (((((((((((((((((((own_ge p1 (65 : Int32)) + (own_ge p1 (91 : Int32))) + (own_ge p1 (95 : Int32))) + (own_ge p1 (96 : Int32))) + (own_ge p1 (97 : Int32))) + (own_ge p1 (123 : Int32))) + (own_ge p1 (192 : Int32))) + (own_ge p1 (215 : Int32))) + (own_ge p1 (216 : Int32))) + (own_ge p1 (247 : Int32))) + (own_ge p1 (248 : Int32))) + (own_ge p1 (768 : Int32))) + (own_ge p1 (880 : Int32))) + (own_ge p1 (894 : Int32))) + (own_ge p1 (895 : Int32))) + (own_ge p1 (8192 : Int32))) + (own_ge p1 (8204 : Int32))) + (own_ge p1 (8206 : Int32))) + (own_ge p1 (8304 : Int32))))])) (fun t k => XS.sipush Xp19.here hx rfl (hb hby d2_146) k) ?_
  obtain ⟨_, _, ⟨T20, L20, k20, n20⟩, -, X20, ⟨Lc20, hQ20, l20, y20, z20⟩, st20⟩ := Jvm.LawKit.callS Xp19 hx (y := (⟨"com/example/sapwood/sapwood/query/LexerIsNameStartPinLaw", "ge", "(II)I"⟩ : MethodName)) hown (mvT hZ (hw _ (List.mem_of_getElem? (i := 19) rfl))) (mvT hZ (hw _ (List.mem_of_getElem? (i := 20) rfl))) (mvT hZ (hw _ (List.mem_of_getElem? (i := 17) rfl))) (mvT hZ (hw _ (List.mem_of_getElem? (i := 21) rfl))) (by decide) (backOf (W := 1) (rm1 l Z a0 hw [] p1 (8592 : Int32) h0 n0 Z0) hZ (hw _ (List.mem_of_getElem? (i := 21) rfl)) (hw _ (List.mem_of_getElem? (i := 17) rfl)) (by decide) (by decide)) (g := (mkF m 149 #[.val (.int p1), .unset] [(.int (8592 : Int32)), (.int p1), (.int (((((((((((((((((((own_ge p1 (65 : Int32)) + (own_ge p1 (91 : Int32))) + (own_ge p1 (95 : Int32))) + (own_ge p1 (96 : Int32))) + (own_ge p1 (97 : Int32))) + (own_ge p1 (123 : Int32))) + (own_ge p1 (192 : Int32))) + (own_ge p1 (215 : Int32))) + (own_ge p1 (216 : Int32))) + (own_ge p1 (247 : Int32))) + (own_ge p1 (248 : Int32))) + (own_ge p1 (768 : Int32))) + (own_ge p1 (880 : Int32))) + (own_ge p1 (894 : Int32))) + (own_ge p1 (895 : Int32))) + (own_ge p1 (8192 : Int32))) + (own_ge p1 (8204 : Int32))) + (own_ge p1 (8206 : Int32))) + (own_ge p1 (8304 : Int32))))])) rfl (by rw [hml]; rfl) (argsL := [(.int p1), (.int (8592 : Int32))]) (rest := [(.int (((((((((((((((((((own_ge p1 (65 : Int32)) + (own_ge p1 (91 : Int32))) + (own_ge p1 (95 : Int32))) + (own_ge p1 (96 : Int32))) + (own_ge p1 (97 : Int32))) + (own_ge p1 (123 : Int32))) + (own_ge p1 (192 : Int32))) + (own_ge p1 (215 : Int32))) + (own_ge p1 (216 : Int32))) + (own_ge p1 (247 : Int32))) + (own_ge p1 (248 : Int32))) + (own_ge p1 (768 : Int32))) + (own_ge p1 (880 : Int32))) + (own_ge p1 (894 : Int32))) + (own_ge p1 (895 : Int32))) + (own_ge p1 (8192 : Int32))) + (own_ge p1 (8204 : Int32))) + (own_ge p1 (8206 : Int32))) + (own_ge p1 (8304 : Int32))))]) (lenOf pd_1 rfl) rfl (by show 2 * 0 + _ ≤ _; exact Nat.le_of_eq rfl) (hb hby d2_149) (fun _ _ => ⟨rfl, e19, (by decide : 0 + 0 ≤ _), (by decide : 0 + 0 ≤ _)⟩)
  dsimp only [Pt.U, Pt.locs, Pt.cells, Pt.slots] at X20 l20 y20 z20 st20 hQ20
  subst l20 y20 z20
  obtain ⟨rfl, N20q, e20⟩ := hQ20
  have N20 := Fr.app Np19 N20q
  refine Goes.step (S' := T20.setTop (mkF m 152 #[.val (.int p1), .unset] [(.int (own_ge p1 (8592 : Int32))), (.int (((((((((((((((((((own_ge p1 (65 : Int32)) + (own_ge p1 (91 : Int32))) + (own_ge p1 (95 : Int32))) + (own_ge p1 (96 : Int32))) + (own_ge p1 (97 : Int32))) + (own_ge p1 (123 : Int32))) + (own_ge p1 (192 : Int32))) + (own_ge p1 (215 : Int32))) + (own_ge p1 (216 : Int32))) + (own_ge p1 (247 : Int32))) + (own_ge p1 (248 : Int32))) + (own_ge p1 (768 : Int32))) + (own_ge p1 (880 : Int32))) + (own_ge p1 (894 : Int32))) + (own_ge p1 (895 : Int32))) + (own_ge p1 (8192 : Int32))) + (own_ge p1 (8204 : Int32))) + (own_ge p1 (8206 : Int32))) + (own_ge p1 (8304 : Int32))))])) (fun t k => st20 t k) ?_
  obtain ⟨Lp20, Xp20, Np20⟩ : ∃ L, Stand p l e ({ frames := 1, cells := 0, slots := 0, locals := 14 } : Room) s m #[(.int p1)] below meth c T20 L 0 0 ∧ Fr n0 L := ⟨_, X20, N20⟩
  clear X20 N20 N20q st20
  clear Xp19 Np19 e19
  clear Lp19 T19
  refine Goes.step (S' := T20.setTop (mkF m 153 #[.val (.int p1), .unset] [(.int ((((((((((((((((((((own_ge p1 (65 : Int32)) + (own_ge p1 (91 : Int32))) + (own_ge p1 (95 : Int32))) + (own_ge p1 (96 : Int32))) + (own_ge p1 (97 : Int32))) + (own_ge p1 (123 : Int32))) + (own_ge p1 (192 : Int32))) + (own_ge p1 (215 : Int32))) + (own_ge p1 (216 : Int32))) + (own_ge p1 (247 : Int32))) + (own_ge p1 (248 : Int32))) + (own_ge p1 (768 : Int32))) + (own_ge p1 (880 : Int32))) + (own_ge p1 (894 : Int32))) + (own_ge p1 (895 : Int32))) + (own_ge p1 (8192 : Int32))) + (own_ge p1 (8204 : Int32))) + (own_ge p1 (8206 : Int32))) + (own_ge p1 (8304 : Int32))) + (own_ge p1 (8592 : Int32))))])) (fun t k => XS.iadd Xp20.here hx rfl (hb hby d2_152) rfl k) ?_
  refine Goes.step (S' := T20.setTop (mkF m 154 #[.val (.int p1), .unset] [(.int p1), (.int ((((((((((((((((((((own_ge p1 (65 : Int32)) + (own_ge p1 (91 : Int32))) + (own_ge p1 (95 : Int32))) + (own_ge p1 (96 : Int32))) + (own_ge p1 (97 : Int32))) + (own_ge p1 (123 : Int32))) + (own_ge p1 (192 : Int32))) + (own_ge p1 (215 : Int32))) + (own_ge p1 (216 : Int32))) + (own_ge p1 (247 : Int32))) + (own_ge p1 (248 : Int32))) + (own_ge p1 (768 : Int32))) + (own_ge p1 (880 : Int32))) + (own_ge p1 (894 : Int32))) + (own_ge p1 (895 : Int32))) + (own_ge p1 (8192 : Int32))) + (own_ge p1 (8204 : Int32))) + (own_ge p1 (8206 : Int32))) + (own_ge p1 (8304 : Int32))) + (own_ge p1 (8592 : Int32))))])) (fun t k => XS.iloadN Xp20.here hx rfl (hb hby d2_153) rfl k) ?_
  refine Goes.step (S' := T20.setTop (mkF m 157 #[.val (.int p1), .unset] [(.int (11264 : Int32)), (.int p1), (.int ((((((((((((((((((((own_ge p1 (65 : Int32)) + (own_ge p1 (91 : Int32))) + (own_ge p1 (95 : Int32))) + (own_ge p1 (96 : Int32))) + (own_ge p1 (97 : Int32))) + (own_ge p1 (123 : Int32))) + (own_ge p1 (192 : Int32))) + (own_ge p1 (215 : Int32))) + (own_ge p1 (216 : Int32))) + (own_ge p1 (247 : Int32))) + (own_ge p1 (248 : Int32))) + (own_ge p1 (768 : Int32))) + (own_ge p1 (880 : Int32))) + (own_ge p1 (894 : Int32))) + (own_ge p1 (895 : Int32))) + (own_ge p1 (8192 : Int32))) + (own_ge p1 (8204 : Int32))) + (own_ge p1 (8206 : Int32))) + (own_ge p1 (8304 : Int32))) + (own_ge p1 (8592 : Int32))))])) (fun t k => XS.sipush Xp20.here hx rfl (hb hby d2_154) k) ?_
  obtain ⟨_, _, ⟨T21, L21, k21, n21⟩, -, X21, ⟨Lc21, hQ21, l21, y21, z21⟩, st21⟩ := Jvm.LawKit.callS Xp20 hx (y := (⟨"com/example/sapwood/sapwood/query/LexerIsNameStartPinLaw", "ge", "(II)I"⟩ : MethodName)) hown (mvT hZ (hw _ (List.mem_of_getElem? (i := 19) rfl))) (mvT hZ (hw _ (List.mem_of_getElem? (i := 20) rfl))) (mvT hZ (hw _ (List.mem_of_getElem? (i := 17) rfl))) (mvT hZ (hw _ (List.mem_of_getElem? (i := 21) rfl))) (by decide) (backOf (W := 1) (rm1 l Z a0 hw [] p1 (11264 : Int32) h0 n0 Z0) hZ (hw _ (List.mem_of_getElem? (i := 21) rfl)) (hw _ (List.mem_of_getElem? (i := 17) rfl)) (by decide) (by decide)) (g := (mkF m 157 #[.val (.int p1), .unset] [(.int (11264 : Int32)), (.int p1), (.int ((((((((((((((((((((own_ge p1 (65 : Int32)) + (own_ge p1 (91 : Int32))) + (own_ge p1 (95 : Int32))) + (own_ge p1 (96 : Int32))) + (own_ge p1 (97 : Int32))) + (own_ge p1 (123 : Int32))) + (own_ge p1 (192 : Int32))) + (own_ge p1 (215 : Int32))) + (own_ge p1 (216 : Int32))) + (own_ge p1 (247 : Int32))) + (own_ge p1 (248 : Int32))) + (own_ge p1 (768 : Int32))) + (own_ge p1 (880 : Int32))) + (own_ge p1 (894 : Int32))) + (own_ge p1 (895 : Int32))) + (own_ge p1 (8192 : Int32))) + (own_ge p1 (8204 : Int32))) + (own_ge p1 (8206 : Int32))) + (own_ge p1 (8304 : Int32))) + (own_ge p1 (8592 : Int32))))])) rfl (by rw [hml]; rfl) (argsL := [(.int p1), (.int (11264 : Int32))]) (rest := [(.int ((((((((((((((((((((own_ge p1 (65 : Int32)) + (own_ge p1 (91 : Int32))) + (own_ge p1 (95 : Int32))) + (own_ge p1 (96 : Int32))) + (own_ge p1 (97 : Int32))) + (own_ge p1 (123 : Int32))) + (own_ge p1 (192 : Int32))) + (own_ge p1 (215 : Int32))) + (own_ge p1 (216 : Int32))) + (own_ge p1 (247 : Int32))) + (own_ge p1 (248 : Int32))) + (own_ge p1 (768 : Int32))) + (own_ge p1 (880 : Int32))) + (own_ge p1 (894 : Int32))) + (own_ge p1 (895 : Int32))) + (own_ge p1 (8192 : Int32))) + (own_ge p1 (8204 : Int32))) + (own_ge p1 (8206 : Int32))) + (own_ge p1 (8304 : Int32))) + (own_ge p1 (8592 : Int32))))]) (lenOf pd_1 rfl) rfl (by show 2 * 0 + _ ≤ _; exact Nat.le_of_eq rfl) (hb hby d2_157) (fun _ _ => ⟨rfl, e20, (by decide : 0 + 0 ≤ _), (by decide : 0 + 0 ≤ _)⟩)
  dsimp only [Pt.U, Pt.locs, Pt.cells, Pt.slots] at X21 l21 y21 z21 st21 hQ21
  subst l21 y21 z21
  obtain ⟨rfl, N21q, e21⟩ := hQ21
  have N21 := Fr.app Np20 N21q
  refine Goes.step (S' := T21.setTop (mkF m 160 #[.val (.int p1), .unset] [(.int (own_ge p1 (11264 : Int32))), (.int ((((((((((((((((((((own_ge p1 (65 : Int32)) + (own_ge p1 (91 : Int32))) + (own_ge p1 (95 : Int32))) + (own_ge p1 (96 : Int32))) + (own_ge p1 (97 : Int32))) + (own_ge p1 (123 : Int32))) + (own_ge p1 (192 : Int32))) + (own_ge p1 (215 : Int32))) + (own_ge p1 (216 : Int32))) + (own_ge p1 (247 : Int32))) + (own_ge p1 (248 : Int32))) + (own_ge p1 (768 : Int32))) + (own_ge p1 (880 : Int32))) + (own_ge p1 (894 : Int32))) + (own_ge p1 (895 : Int32))) + (own_ge p1 (8192 : Int32))) + (own_ge p1 (8204 : Int32))) + (own_ge p1 (8206 : Int32))) + (own_ge p1 (8304 : Int32))) + (own_ge p1 (8592 : Int32))))])) (fun t k => st21 t k) ?_
  obtain ⟨Lp21, Xp21, Np21⟩ : ∃ L, Stand p l e ({ frames := 1, cells := 0, slots := 0, locals := 14 } : Room) s m #[(.int p1)] below meth c T21 L 0 0 ∧ Fr n0 L := ⟨_, X21, N21⟩
  clear X21 N21 N21q st21
  clear Xp20 Np20 e20
  clear Lp20 T20
  refine Goes.step (S' := T21.setTop (mkF m 161 #[.val (.int p1), .unset] [(.int (((((((((((((((((((((own_ge p1 (65 : Int32)) + (own_ge p1 (91 : Int32))) + (own_ge p1 (95 : Int32))) + (own_ge p1 (96 : Int32))) + (own_ge p1 (97 : Int32))) + (own_ge p1 (123 : Int32))) + (own_ge p1 (192 : Int32))) + (own_ge p1 (215 : Int32))) + (own_ge p1 (216 : Int32))) + (own_ge p1 (247 : Int32))) + (own_ge p1 (248 : Int32))) + (own_ge p1 (768 : Int32))) + (own_ge p1 (880 : Int32))) + (own_ge p1 (894 : Int32))) + (own_ge p1 (895 : Int32))) + (own_ge p1 (8192 : Int32))) + (own_ge p1 (8204 : Int32))) + (own_ge p1 (8206 : Int32))) + (own_ge p1 (8304 : Int32))) + (own_ge p1 (8592 : Int32))) + (own_ge p1 (11264 : Int32))))])) (fun t k => XS.iadd Xp21.here hx rfl (hb hby d2_160) rfl k) ?_
  refine Goes.step (S' := T21.setTop (mkF m 162 #[.val (.int p1), .unset] [(.int p1), (.int (((((((((((((((((((((own_ge p1 (65 : Int32)) + (own_ge p1 (91 : Int32))) + (own_ge p1 (95 : Int32))) + (own_ge p1 (96 : Int32))) + (own_ge p1 (97 : Int32))) + (own_ge p1 (123 : Int32))) + (own_ge p1 (192 : Int32))) + (own_ge p1 (215 : Int32))) + (own_ge p1 (216 : Int32))) + (own_ge p1 (247 : Int32))) + (own_ge p1 (248 : Int32))) + (own_ge p1 (768 : Int32))) + (own_ge p1 (880 : Int32))) + (own_ge p1 (894 : Int32))) + (own_ge p1 (895 : Int32))) + (own_ge p1 (8192 : Int32))) + (own_ge p1 (8204 : Int32))) + (own_ge p1 (8206 : Int32))) + (own_ge p1 (8304 : Int32))) + (own_ge p1 (8592 : Int32))) + (own_ge p1 (11264 : Int32))))])) (fun t k => XS.iloadN Xp21.here hx rfl (hb hby d2_161) rfl k) ?_
  refine Goes.step (S' := T21.setTop (mkF m 165 #[.val (.int p1), .unset] [(.int (12272 : Int32)), (.int p1), (.int (((((((((((((((((((((own_ge p1 (65 : Int32)) + (own_ge p1 (91 : Int32))) + (own_ge p1 (95 : Int32))) + (own_ge p1 (96 : Int32))) + (own_ge p1 (97 : Int32))) + (own_ge p1 (123 : Int32))) + (own_ge p1 (192 : Int32))) + (own_ge p1 (215 : Int32))) + (own_ge p1 (216 : Int32))) + (own_ge p1 (247 : Int32))) + (own_ge p1 (248 : Int32))) + (own_ge p1 (768 : Int32))) + (own_ge p1 (880 : Int32))) + (own_ge p1 (894 : Int32))) + (own_ge p1 (895 : Int32))) + (own_ge p1 (8192 : Int32))) + (own_ge p1 (8204 : Int32))) + (own_ge p1 (8206 : Int32))) + (own_ge p1 (8304 : Int32))) + (own_ge p1 (8592 : Int32))) + (own_ge p1 (11264 : Int32))))])) (fun t k => XS.sipush Xp21.here hx rfl (hb hby d2_162) k) ?_
  obtain ⟨_, _, ⟨T22, L22, k22, n22⟩, -, X22, ⟨Lc22, hQ22, l22, y22, z22⟩, st22⟩ := Jvm.LawKit.callS Xp21 hx (y := (⟨"com/example/sapwood/sapwood/query/LexerIsNameStartPinLaw", "ge", "(II)I"⟩ : MethodName)) hown (mvT hZ (hw _ (List.mem_of_getElem? (i := 19) rfl))) (mvT hZ (hw _ (List.mem_of_getElem? (i := 20) rfl))) (mvT hZ (hw _ (List.mem_of_getElem? (i := 17) rfl))) (mvT hZ (hw _ (List.mem_of_getElem? (i := 21) rfl))) (by decide) (backOf (W := 1) (rm1 l Z a0 hw [] p1 (12272 : Int32) h0 n0 Z0) hZ (hw _ (List.mem_of_getElem? (i := 21) rfl)) (hw _ (List.mem_of_getElem? (i := 17) rfl)) (by decide) (by decide)) (g := (mkF m 165 #[.val (.int p1), .unset] [(.int (12272 : Int32)), (.int p1), (.int (((((((((((((((((((((own_ge p1 (65 : Int32)) + (own_ge p1 (91 : Int32))) + (own_ge p1 (95 : Int32))) + (own_ge p1 (96 : Int32))) + (own_ge p1 (97 : Int32))) + (own_ge p1 (123 : Int32))) + (own_ge p1 (192 : Int32))) + (own_ge p1 (215 : Int32))) + (own_ge p1 (216 : Int32))) + (own_ge p1 (247 : Int32))) + (own_ge p1 (248 : Int32))) + (own_ge p1 (768 : Int32))) + (own_ge p1 (880 : Int32))) + (own_ge p1 (894 : Int32))) + (own_ge p1 (895 : Int32))) + (own_ge p1 (8192 : Int32))) + (own_ge p1 (8204 : Int32))) + (own_ge p1 (8206 : Int32))) + (own_ge p1 (8304 : Int32))) + (own_ge p1 (8592 : Int32))) + (own_ge p1 (11264 : Int32))))])) rfl (by rw [hml]; rfl) (argsL := [(.int p1), (.int (12272 : Int32))]) (rest := [(.int (((((((((((((((((((((own_ge p1 (65 : Int32)) + (own_ge p1 (91 : Int32))) + (own_ge p1 (95 : Int32))) + (own_ge p1 (96 : Int32))) + (own_ge p1 (97 : Int32))) + (own_ge p1 (123 : Int32))) + (own_ge p1 (192 : Int32))) + (own_ge p1 (215 : Int32))) + (own_ge p1 (216 : Int32))) + (own_ge p1 (247 : Int32))) + (own_ge p1 (248 : Int32))) + (own_ge p1 (768 : Int32))) + (own_ge p1 (880 : Int32))) + (own_ge p1 (894 : Int32))) + (own_ge p1 (895 : Int32))) + (own_ge p1 (8192 : Int32))) + (own_ge p1 (8204 : Int32))) + (own_ge p1 (8206 : Int32))) + (own_ge p1 (8304 : Int32))) + (own_ge p1 (8592 : Int32))) + (own_ge p1 (11264 : Int32))))]) (lenOf pd_1 rfl) rfl (by show 2 * 0 + _ ≤ _; exact Nat.le_of_eq rfl) (hb hby d2_165) (fun _ _ => ⟨rfl, e21, (by decide : 0 + 0 ≤ _), (by decide : 0 + 0 ≤ _)⟩)
  dsimp only [Pt.U, Pt.locs, Pt.cells, Pt.slots] at X22 l22 y22 z22 st22 hQ22
  subst l22 y22 z22
  obtain ⟨rfl, N22q, e22⟩ := hQ22
  have N22 := Fr.app Np21 N22q
  refine Goes.step (S' := T22.setTop (mkF m 168 #[.val (.int p1), .unset] [(.int (own_ge p1 (12272 : Int32))), (.int (((((((((((((((((((((own_ge p1 (65 : Int32)) + (own_ge p1 (91 : Int32))) + (own_ge p1 (95 : Int32))) + (own_ge p1 (96 : Int32))) + (own_ge p1 (97 : Int32))) + (own_ge p1 (123 : Int32))) + (own_ge p1 (192 : Int32))) + (own_ge p1 (215 : Int32))) + (own_ge p1 (216 : Int32))) + (own_ge p1 (247 : Int32))) + (own_ge p1 (248 : Int32))) + (own_ge p1 (768 : Int32))) + (own_ge p1 (880 : Int32))) + (own_ge p1 (894 : Int32))) + (own_ge p1 (895 : Int32))) + (own_ge p1 (8192 : Int32))) + (own_ge p1 (8204 : Int32))) + (own_ge p1 (8206 : Int32))) + (own_ge p1 (8304 : Int32))) + (own_ge p1 (8592 : Int32))) + (own_ge p1 (11264 : Int32))))])) (fun t k => st22 t k) ?_
  obtain ⟨Lp22, Xp22, Np22⟩ : ∃ L, Stand p l e ({ frames := 1, cells := 0, slots := 0, locals := 14 } : Room) s m #[(.int p1)] below meth c T22 L 0 0 ∧ Fr n0 L := ⟨_, X22, N22⟩
  clear X22 N22 N22q st22
  clear Xp21 Np21 e21
  clear Lp21 T21
  refine Goes.step (S' := T22.setTop (mkF m 169 #[.val (.int p1), .unset] [(.int ((((((((((((((((((((((own_ge p1 (65 : Int32)) + (own_ge p1 (91 : Int32))) + (own_ge p1 (95 : Int32))) + (own_ge p1 (96 : Int32))) + (own_ge p1 (97 : Int32))) + (own_ge p1 (123 : Int32))) + (own_ge p1 (192 : Int32))) + (own_ge p1 (215 : Int32))) + (own_ge p1 (216 : Int32))) + (own_ge p1 (247 : Int32))) + (own_ge p1 (248 : Int32))) + (own_ge p1 (768 : Int32))) + (own_ge p1 (880 : Int32))) + (own_ge p1 (894 : Int32))) + (own_ge p1 (895 : Int32))) + (own_ge p1 (8192 : Int32))) + (own_ge p1 (8204 : Int32))) + (own_ge p1 (8206 : Int32))) + (own_ge p1 (8304 : Int32))) + (own_ge p1 (8592 : Int32))) + (own_ge p1 (11264 : Int32))) + (own_ge p1 (12272 : Int32))))])) (fun t k => XS.iadd Xp22.here hx rfl (hb hby d2_168) rfl k) ?_
  refine Goes.step (S' := T22.setTop (mkF m 170 #[.val (.int p1), .unset] [(.int p1), (.int ((((((((((((((((((((((own_ge p1 (65 : Int32)) + (own_ge p1 (91 : Int32))) + (own_ge p1 (95 : Int32))) + (own_ge p1 (96 : Int32))) + (own_ge p1 (97 : Int32))) + (own_ge p1 (123 : Int32))) + (own_ge p1 (192 : Int32))) + (own_ge p1 (215 : Int32))) + (own_ge p1 (216 : Int32))) + (own_ge p1 (247 : Int32))) + (own_ge p1 (248 : Int32))) + (own_ge p1 (768 : Int32))) + (own_ge p1 (880 : Int32))) + (own_ge p1 (894 : Int32))) + (own_ge p1 (895 : Int32))) + (own_ge p1 (8192 : Int32))) + (own_ge p1 (8204 : Int32))) + (own_ge p1 (8206 : Int32))) + (own_ge p1 (8304 : Int32))) + (own_ge p1 (8592 : Int32))) + (own_ge p1 (11264 : Int32))) + (own_ge p1 (12272 : Int32))))])) (fun t k => XS.iloadN Xp22.here hx rfl (hb hby d2_169) rfl k) ?_
  refine Goes.step (S' := T22.setTop (mkF m 173 #[.val (.int p1), .unset] [(.int (12289 : Int32)), (.int p1), (.int ((((((((((((((((((((((own_ge p1 (65 : Int32)) + (own_ge p1 (91 : Int32))) + (own_ge p1 (95 : Int32))) + (own_ge p1 (96 : Int32))) + (own_ge p1 (97 : Int32))) + (own_ge p1 (123 : Int32))) + (own_ge p1 (192 : Int32))) + (own_ge p1 (215 : Int32))) + (own_ge p1 (216 : Int32))) + (own_ge p1 (247 : Int32))) + (own_ge p1 (248 : Int32))) + (own_ge p1 (768 : Int32))) + (own_ge p1 (880 : Int32))) + (own_ge p1 (894 : Int32))) + (own_ge p1 (895 : Int32))) + (own_ge p1 (8192 : Int32))) + (own_ge p1 (8204 : Int32))) + (own_ge p1 (8206 : Int32))) + (own_ge p1 (8304 : Int32))) + (own_ge p1 (8592 : Int32))) + (own_ge p1 (11264 : Int32))) + (own_ge p1 (12272 : Int32))))])) (fun t k => XS.sipush Xp22.here hx rfl (hb hby d2_170) k) ?_
  obtain ⟨_, _, ⟨T23, L23, k23, n23⟩, -, X23, ⟨Lc23, hQ23, l23, y23, z23⟩, st23⟩ := Jvm.LawKit.callS Xp22 hx (y := (⟨"com/example/sapwood/sapwood/query/LexerIsNameStartPinLaw", "ge", "(II)I"⟩ : MethodName)) hown (mvT hZ (hw _ (List.mem_of_getElem? (i := 19) rfl))) (mvT hZ (hw _ (List.mem_of_getElem? (i := 20) rfl))) (mvT hZ (hw _ (List.mem_of_getElem? (i := 17) rfl))) (mvT hZ (hw _ (List.mem_of_getElem? (i := 21) rfl))) (by decide) (backOf (W := 1) (rm1 l Z a0 hw [] p1 (12289 : Int32) h0 n0 Z0) hZ (hw _ (List.mem_of_getElem? (i := 21) rfl)) (hw _ (List.mem_of_getElem? (i := 17) rfl)) (by decide) (by decide)) (g := (mkF m 173 #[.val (.int p1), .unset] [(.int (12289 : Int32)), (.int p1), (.int ((((((((((((((((((((((own_ge p1 (65 : Int32)) + (own_ge p1 (91 : Int32))) + (own_ge p1 (95 : Int32))) + (own_ge p1 (96 : Int32))) + (own_ge p1 (97 : Int32))) + (own_ge p1 (123 : Int32))) + (own_ge p1 (192 : Int32))) + (own_ge p1 (215 : Int32))) + (own_ge p1 (216 : Int32))) + (own_ge p1 (247 : Int32))) + (own_ge p1 (248 : Int32))) + (own_ge p1 (768 : Int32))) + (own_ge p1 (880 : Int32))) + (own_ge p1 (894 : Int32))) + (own_ge p1 (895 : Int32))) + (own_ge p1 (8192 : Int32))) + (own_ge p1 (8204 : Int32))) + (own_ge p1 (8206 : Int32))) + (own_ge p1 (8304 : Int32))) + (own_ge p1 (8592 : Int32))) + (own_ge p1 (11264 : Int32))) + (own_ge p1 (12272 : Int32))))])) rfl (by rw [hml]; rfl) (argsL := [(.int p1), (.int (12289 : Int32))]) (rest := [(.int ((((((((((((((((((((((own_ge p1 (65 : Int32)) + (own_ge p1 (91 : Int32))) + (own_ge p1 (95 : Int32))) + (own_ge p1 (96 : Int32))) + (own_ge p1 (97 : Int32))) + (own_ge p1 (123 : Int32))) + (own_ge p1 (192 : Int32))) + (own_ge p1 (215 : Int32))) + (own_ge p1 (216 : Int32))) + (own_ge p1 (247 : Int32))) + (own_ge p1 (248 : Int32))) + (own_ge p1 (768 : Int32))) + (own_ge p1 (880 : Int32))) + (own_ge p1 (894 : Int32))) + (own_ge p1 (895 : Int32))) + (own_ge p1 (8192 : Int32))) + (own_ge p1 (8204 : Int32))) + (own_ge p1 (8206 : Int32))) + (own_ge p1 (8304 : Int32))) + (own_ge p1 (8592 : Int32))) + (own_ge p1 (11264 : Int32))) + (own_ge p1 (12272 : Int32))))]) (lenOf pd_1 rfl) rfl (by show 2 * 0 + _ ≤ _; exact Nat.le_of_eq rfl) (hb hby d2_173) (fun _ _ => ⟨rfl, e22, (by decide : 0 + 0 ≤ _), (by decide : 0 + 0 ≤ _)⟩)
  dsimp only [Pt.U, Pt.locs, Pt.cells, Pt.slots] at X23 l23 y23 z23 st23 hQ23
  subst l23 y23 z23
  obtain ⟨rfl, N23q, e23⟩ := hQ23
  have N23 := Fr.app Np22 N23q
  refine Goes.step (S' := T23.setTop (mkF m 176 #[.val (.int p1), .unset] [(.int (own_ge p1 (12289 : Int32))), (.int ((((((((((((((((((((((own_ge p1 (65 : Int32)) + (own_ge p1 (91 : Int32))) + (own_ge p1 (95 : Int32))) + (own_ge p1 (96 : Int32))) + (own_ge p1 (97 : Int32))) + (own_ge p1 (123 : Int32))) + (own_ge p1 (192 : Int32))) + (own_ge p1 (215 : Int32))) + (own_ge p1 (216 : Int32))) + (own_ge p1 (247 : Int32))) + (own_ge p1 (248 : Int32))) + (own_ge p1 (768 : Int32))) + (own_ge p1 (880 : Int32))) + (own_ge p1 (894 : Int32))) + (own_ge p1 (895 : Int32))) + (own_ge p1 (8192 : Int32))) + (own_ge p1 (8204 : Int32))) + (own_ge p1 (8206 : Int32))) + (own_ge p1 (8304 : Int32))) + (own_ge p1 (8592 : Int32))) + (own_ge p1 (11264 : Int32))) + (own_ge p1 (12272 : Int32))))])) (fun t k => st23 t k) ?_
  obtain ⟨Lp23, Xp23, Np23⟩ : ∃ L, Stand p l e ({ frames := 1, cells := 0, slots := 0, locals := 14 } : Room) s m #[(.int p1)] below meth c T23 L 0 0 ∧ Fr n0 L := ⟨_, X23, N23⟩
  clear X23 N23 N23q st23
  clear Xp22 Np22 e22
  clear Lp22 T22
  refine Goes.step (S' := T23.setTop (mkF m 177 #[.val (.int p1), .unset] [(.int (((((((((((((((((((((((own_ge p1 (65 : Int32)) + (own_ge p1 (91 : Int32))) + (own_ge p1 (95 : Int32))) + (own_ge p1 (96 : Int32))) + (own_ge p1 (97 : Int32))) + (own_ge p1 (123 : Int32))) + (own_ge p1 (192 : Int32))) + (own_ge p1 (215 : Int32))) + (own_ge p1 (216 : Int32))) + (own_ge p1 (247 : Int32))) + (own_ge p1 (248 : Int32))) + (own_ge p1 (768 : Int32))) + (own_ge p1 (880 : Int32))) + (own_ge p1 (894 : Int32))) + (own_ge p1 (895 : Int32))) + (own_ge p1 (8192 : Int32))) + (own_ge p1 (8204 : Int32))) + (own_ge p1 (8206 : Int32))) + (own_ge p1 (8304 : Int32))) + (own_ge p1 (8592 : Int32))) + (own_ge p1 (11264 : Int32))) + (own_ge p1 (12272 : Int32))) + (own_ge p1 (12289 : Int32))))])) (fun t k => XS.iadd Xp23.here hx rfl (hb hby d2_176) rfl k) ?_
  refine Goes.step (S' := T23.setTop (mkF m 178 #[.val (.int p1), .unset] [(.int p1), (.int (((((((((((((((((((((((own_ge p1 (65 : Int32)) + (own_ge p1 (91 : Int32))) + (own_ge p1 (95 : Int32))) + (own_ge p1 (96 : Int32))) + (own_ge p1 (97 : Int32))) + (own_ge p1 (123 : Int32))) + (own_ge p1 (192 : Int32))) + (own_ge p1 (215 : Int32))) + (own_ge p1 (216 : Int32))) + (own_ge p1 (247 : Int32))) + (own_ge p1 (248 : Int32))) + (own_ge p1 (768 : Int32))) + (own_ge p1 (880 : Int32))) + (own_ge p1 (894 : Int32))) + (own_ge p1 (895 : Int32))) + (own_ge p1 (8192 : Int32))) + (own_ge p1 (8204 : Int32))) + (own_ge p1 (8206 : Int32))) + (own_ge p1 (8304 : Int32))) + (own_ge p1 (8592 : Int32))) + (own_ge p1 (11264 : Int32))) + (own_ge p1 (12272 : Int32))) + (own_ge p1 (12289 : Int32))))])) (fun t k => XS.iloadN Xp23.here hx rfl (hb hby d2_177) rfl k) ?_
  refine Goes.step (S' := T23.setTop (mkF m 180 #[.val (.int p1), .unset] [(.int (55296 : Int32)), (.int p1), (.int (((((((((((((((((((((((own_ge p1 (65 : Int32)) + (own_ge p1 (91 : Int32))) + (own_ge p1 (95 : Int32))) + (own_ge p1 (96 : Int32))) + (own_ge p1 (97 : Int32))) + (own_ge p1 (123 : Int32))) + (own_ge p1 (192 : Int32))) + (own_ge p1 (215 : Int32))) + (own_ge p1 (216 : Int32))) + (own_ge p1 (247 : Int32))) + (own_ge p1 (248 : Int32))) + (own_ge p1 (768 : Int32))) + (own_ge p1 (880 : Int32))) + (own_ge p1 (894 : Int32))) + (own_ge p1 (895 : Int32))) + (own_ge p1 (8192 : Int32))) + (own_ge p1 (8204 : Int32))) + (own_ge p1 (8206 : Int32))) + (own_ge p1 (8304 : Int32))) + (own_ge p1 (8592 : Int32))) + (own_ge p1 (11264 : Int32))) + (own_ge p1 (12272 : Int32))) + (own_ge p1 (12289 : Int32))))])) (fun t k => Xp23.ldcInt hx hown (mvT hZ (hw _ (List.mem_of_getElem? (i := 1) rfl))) (g := (mkF m 178 #[.val (.int p1), .unset] [(.int p1), (.int (((((((((((((((((((((((own_ge p1 (65 : Int32)) + (own_ge p1 (91 : Int32))) + (own_ge p1 (95 : Int32))) + (own_ge p1 (96 : Int32))) + (own_ge p1 (97 : Int32))) + (own_ge p1 (123 : Int32))) + (own_ge p1 (192 : Int32))) + (own_ge p1 (215 : Int32))) + (own_ge p1 (216 : Int32))) + (own_ge p1 (247 : Int32))) + (own_ge p1 (248 : Int32))) + (own_ge p1 (768 : Int32))) + (own_ge p1 (880 : Int32))) + (own_ge p1 (894 : Int32))) + (own_ge p1 (895 : Int32))) + (own_ge p1 (8192 : Int32))) + (own_ge p1 (8204 : Int32))) + (own_ge p1 (8206 : Int32))) + (own_ge p1 (8304 : Int32))) + (own_ge p1 (8592 : Int32))) + (own_ge p1 (11264 : Int32))) + (own_ge p1 (12272 : Int32))) + (own_ge p1 (12289 : Int32))))])) rfl (hb hby d2_178) _ k) ?_
  obtain ⟨_, _, ⟨T24, L24, k24, n24⟩, -, X24, ⟨Lc24, hQ24, l24, y24, z24⟩, st24⟩ := Jvm.LawKit.callS Xp23 hx (y := (⟨"com/example/sapwood/sapwood/query/LexerIsNameStartPinLaw", "ge", "(II)I"⟩ : MethodName)) hown (mvT hZ (hw _ (List.mem_of_getElem? (i := 19) rfl))) (mvT hZ (hw _ (List.mem_of_getElem? (i := 20) rfl))) (mvT hZ (hw _ (List.mem_of_getElem? (i := 17) rfl))) (mvT hZ (hw _ (List.mem_of_getElem? (i := 21) rfl))) (by decide) (backOf (W := 1) (rm1 l Z a0 hw [] p1 (55296 : Int32) h0 n0 Z0) hZ (hw _ (List.mem_of_getElem? (i := 21) rfl)) (hw _ (List.mem_of_getElem? (i := 17) rfl)) (by decide) (by decide)) (g := (mkF m 180 #[.val (.int p1), .unset] [(.int (55296 : Int32)), (.int p1), (.int (((((((((((((((((((((((own_ge p1 (65 : Int32)) + (own_ge p1 (91 : Int32))) + (own_ge p1 (95 : Int32))) + (own_ge p1 (96 : Int32))) + (own_ge p1 (97 : Int32))) + (own_ge p1 (123 : Int32))) + (own_ge p1 (192 : Int32))) + (own_ge p1 (215 : Int32))) + (own_ge p1 (216 : Int32))) + (own_ge p1 (247 : Int32))) + (own_ge p1 (248 : Int32))) + (own_ge p1 (768 : Int32))) + (own_ge p1 (880 : Int32))) + (own_ge p1 (894 : Int32))) + (own_ge p1 (895 : Int32))) + (own_ge p1 (8192 : Int32))) + (own_ge p1 (8204 : Int32))) + (own_ge p1 (8206 : Int32))) + (own_ge p1 (8304 : Int32))) + (own_ge p1 (8592 : Int32))) + (own_ge p1 (11264 : Int32))) + (own_ge p1 (12272 : Int32))) + (own_ge p1 (12289 : Int32))))])) rfl (by rw [hml]; rfl) (argsL := [(.int p1), (.int (55296 : Int32))]) (rest := [(.int (((((((((((((((((((((((own_ge p1 (65 : Int32)) + (own_ge p1 (91 : Int32))) + (own_ge p1 (95 : Int32))) + (own_ge p1 (96 : Int32))) + (own_ge p1 (97 : Int32))) + (own_ge p1 (123 : Int32))) + (own_ge p1 (192 : Int32))) + (own_ge p1 (215 : Int32))) + (own_ge p1 (216 : Int32))) + (own_ge p1 (247 : Int32))) + (own_ge p1 (248 : Int32))) + (own_ge p1 (768 : Int32))) + (own_ge p1 (880 : Int32))) + (own_ge p1 (894 : Int32))) + (own_ge p1 (895 : Int32))) + (own_ge p1 (8192 : Int32))) + (own_ge p1 (8204 : Int32))) + (own_ge p1 (8206 : Int32))) + (own_ge p1 (8304 : Int32))) + (own_ge p1 (8592 : Int32))) + (own_ge p1 (11264 : Int32))) + (own_ge p1 (12272 : Int32))) + (own_ge p1 (12289 : Int32))))]) (lenOf pd_1 rfl) rfl (by show 2 * 0 + _ ≤ _; exact Nat.le_of_eq rfl) (hb hby d2_180) (fun _ _ => ⟨rfl, e23, (by decide : 0 + 0 ≤ _), (by decide : 0 + 0 ≤ _)⟩)
  dsimp only [Pt.U, Pt.locs, Pt.cells, Pt.slots] at X24 l24 y24 z24 st24 hQ24
  subst l24 y24 z24
  obtain ⟨rfl, N24q, e24⟩ := hQ24
  have N24 := Fr.app Np23 N24q
  refine Goes.step (S' := T24.setTop (mkF m 183 #[.val (.int p1), .unset] [(.int (own_ge p1 (55296 : Int32))), (.int (((((((((((((((((((((((own_ge p1 (65 : Int32)) + (own_ge p1 (91 : Int32))) + (own_ge p1 (95 : Int32))) + (own_ge p1 (96 : Int32))) + (own_ge p1 (97 : Int32))) + (own_ge p1 (123 : Int32))) + (own_ge p1 (192 : Int32))) + (own_ge p1 (215 : Int32))) + (own_ge p1 (216 : Int32))) + (own_ge p1 (247 : Int32))) + (own_ge p1 (248 : Int32))) + (own_ge p1 (768 : Int32))) + (own_ge p1 (880 : Int32))) + (own_ge p1 (894 : Int32))) + (own_ge p1 (895 : Int32))) + (own_ge p1 (8192 : Int32))) + (own_ge p1 (8204 : Int32))) + (own_ge p1 (8206 : Int32))) + (own_ge p1 (8304 : Int32))) + (own_ge p1 (8592 : Int32))) + (own_ge p1 (11264 : Int32))) + (own_ge p1 (12272 : Int32))) + (own_ge p1 (12289 : Int32))))])) (fun t k => st24 t k) ?_
  obtain ⟨Lp24, Xp24, Np24⟩ : ∃ L, Stand p l e ({ frames := 1, cells := 0, slots := 0, locals := 14 } : Room) s m #[(.int p1)] below meth c T24 L 0 0 ∧ Fr n0 L := ⟨_, X24, N24⟩
  clear X24 N24 N24q st24
  clear Xp23 Np23 e23
  clear Lp23 T23
  refine Goes.step (S' := T24.setTop (mkF m 184 #[.val (.int p1), .unset] [(.int ((((((((((((((((((((((((own_ge p1 (65 : Int32)) + (own_ge p1 (91 : Int32))) + (own_ge p1 (95 : Int32))) + (own_ge p1 (96 : Int32))) + (own_ge p1 (97 : Int32))) + (own_ge p1 (123 : Int32))) + (own_ge p1 (192 : Int32))) + (own_ge p1 (215 : Int32))) + (own_ge p1 (216 : Int32))) + (own_ge p1 (247 : Int32))) + (own_ge p1 (248 : Int32))) + (own_ge p1 (768 : Int32))) + (own_ge p1 (880 : Int32))) + (own_ge p1 (894 : Int32))) + (own_ge p1 (895 : Int32))) + (own_ge p1 (8192 : Int32))) + (own_ge p1 (8204 : Int32))) + (own_ge p1 (8206 : Int32))) + (own_ge p1 (8304 : Int32))) + (own_ge p1 (8592 : Int32))) + (own_ge p1 (11264 : Int32))) + (own_ge p1 (12272 : Int32))) + (own_ge p1 (12289 : Int32))) + (own_ge p1 (55296 : Int32))))])) (fun t k => XS.iadd Xp24.here hx rfl (hb hby d2_183) rfl k) ?_
  refine Goes.step (S' := T24.setTop (mkF m 185 #[.val (.int p1), .unset] [(.int p1), (.int ((((((((((((((((((((((((own_ge p1 (65 : Int32)) + (own_ge p1 (91 : Int32))) + (own_ge p1 (95 : Int32))) + (own_ge p1 (96 : Int32))) + (own_ge p1 (97 : Int32))) + (own_ge p1 (123 : Int32))) + (own_ge p1 (192 : Int32))) + (own_ge p1 (215 : Int32))) + (own_ge p1 (216 : Int32))) + (own_ge p1 (247 : Int32))) + (own_ge p1 (248 : Int32))) + (own_ge p1 (768 : Int32))) + (own_ge p1 (880 : Int32))) + (own_ge p1 (894 : Int32))) + (own_ge p1 (895 : Int32))) + (own_ge p1 (8192 : Int32))) + (own_ge p1 (8204 : Int32))) + (own_ge p1 (8206 : Int32))) + (own_ge p1 (8304 : Int32))) + (own_ge p1 (8592 : Int32))) + (own_ge p1 (11264 : Int32))) + (own_ge p1 (12272 : Int32))) + (own_ge p1 (12289 : Int32))) + (own_ge p1 (55296 : Int32))))])) (fun t k => XS.iloadN Xp24.here hx rfl (hb hby d2_184) rfl k) ?_
  refine Goes.step (S' := T24.setTop (mkF m 187 #[.val (.int p1), .unset] [(.int (63744 : Int32)), (.int p1), (.int ((((((((((((((((((((((((own_ge p1 (65 : Int32)) + (own_ge p1 (91 : Int32))) + (own_ge p1 (95 : Int32))) + (own_ge p1 (96 : Int32))) + (own_ge p1 (97 : Int32))) + (own_ge p1 (123 : Int32))) + (own_ge p1 (192 : Int32))) + (own_ge p1 (215 : Int32))) + (own_ge p1 (216 : Int32))) + (own_ge p1 (247 : Int32))) + (own_ge p1 (248 : Int32))) + (own_ge p1 (768 : Int32))) + (own_ge p1 (880 : Int32))) + (own_ge p1 (894 : Int32))) + (own_ge p1 (895 : Int32))) + (own_ge p1 (8192 : Int32))) + (own_ge p1 (8204 : Int32))) + (own_ge p1 (8206 : Int32))) + (own_ge p1 (8304 : Int32))) + (own_ge p1 (8592 : Int32))) + (own_ge p1 (11264 : Int32))) + (own_ge p1 (12272 : Int32))) + (own_ge p1 (12289 : Int32))) + (own_ge p1 (55296 : Int32))))])) (fun t k => Xp24.ldcInt hx hown (mvT hZ (hw _ (List.mem_of_getElem? (i := 2) rfl))) (g := (mkF m 185 #[.val (.int p1), .unset] [(.int p1), (.int ((((((((((((((((((((((((own_ge p1 (65 : Int32)) + (own_ge p1 (91 : Int32))) + (own_ge p1 (95 : Int32))) + (own_ge p1 (96 : Int32))) + (own_ge p1 (97 : Int32))) + (own_ge p1 (123 : Int32))) + (own_ge p1 (192 : Int32))) + (own_ge p1 (215 : Int32))) + (own_ge p1 (216 : Int32))) + (own_ge p1 (247 : Int32))) + (own_ge p1 (248 : Int32))) + (own_ge p1 (768 : Int32))) + (own_ge p1 (880 : Int32))) + (own_ge p1 (894 : Int32))) + (own_ge p1 (895 : Int32))) + (own_ge p1 (8192 : Int32))) + (own_ge p1 (8204 : Int32))) + (own_ge p1 (8206 : Int32))) + (own_ge p1 (8304 : Int32))) + (own_ge p1 (8592 : Int32))) + (own_ge p1 (11264 : Int32))) + (own_ge p1 (12272 : Int32))) + (own_ge p1 (12289 : Int32))) + (own_ge p1 (55296 : Int32))))])) rfl (hb hby d2_185) _ k) ?_
  obtain ⟨_, _, ⟨T25, L25, k25, n25⟩, -, X25, ⟨Lc25, hQ25, l25, y25, z25⟩, st25⟩ := Jvm.LawKit.callS Xp24 hx (y := (⟨"com/example/sapwood/sapwood/query/LexerIsNameStartPinLaw", "ge", "(II)I"⟩ : MethodName)) hown (mvT hZ (hw _ (List.mem_of_getElem? (i := 19) rfl))) (mvT hZ (hw _ (List.mem_of_getElem? (i := 20) rfl))) (mvT hZ (hw _ (List.mem_of_getElem? (i := 17) rfl))) (mvT hZ (hw _ (List.mem_of_getElem? (i := 21) rfl))) (by decide) (backOf (W := 1) (rm1 l Z a0 hw [] p1 (63744 : Int32) h0 n0 Z0) hZ (hw _ (List.mem_of_getElem? (i := 21) rfl)) (hw _ (List.mem_of_getElem? (i := 17) rfl)) (by decide) (by decide)) (g := (mkF m 187 #[.val (.int p1), .unset] [(.int (63744 : Int32)), (.int p1), (.int ((((((((((((((((((((((((own_ge p1 (65 : Int32)) + (own_ge p1 (91 : Int32))) + (own_ge p1 (95 : Int32))) + (own_ge p1 (96 : Int32))) + (own_ge p1 (97 : Int32))) + (own_ge p1 (123 : Int32))) + (own_ge p1 (192 : Int32))) + (own_ge p1 (215 : Int32))) + (own_ge p1 (216 : Int32))) + (own_ge p1 (247 : Int32))) + (own_ge p1 (248 : Int32))) + (own_ge p1 (768 : Int32))) + (own_ge p1 (880 : Int32))) + (own_ge p1 (894 : Int32))) + (own_ge p1 (895 : Int32))) + (own_ge p1 (8192 : Int32))) + (own_ge p1 (8204 : Int32))) + (own_ge p1 (8206 : Int32))) + (own_ge p1 (8304 : Int32))) + (own_ge p1 (8592 : Int32))) + (own_ge p1 (11264 : Int32))) + (own_ge p1 (12272 : Int32))) + (own_ge p1 (12289 : Int32))) + (own_ge p1 (55296 : Int32))))])) rfl (by rw [hml]; rfl) (argsL := [(.int p1), (.int (63744 : Int32))]) (rest := [(.int ((((((((((((((((((((((((own_ge p1 (65 : Int32)) + (own_ge p1 (91 : Int32))) + (own_ge p1 (95 : Int32))) + (own_ge p1 (96 : Int32))) + (own_ge p1 (97 : Int32))) + (own_ge p1 (123 : Int32))) + (own_ge p1 (192 : Int32))) + (own_ge p1 (215 : Int32))) + (own_ge p1 (216 : Int32))) + (own_ge p1 (247 : Int32))) + (own_ge p1 (248 : Int32))) + (own_ge p1 (768 : Int32))) + (own_ge p1 (880 : Int32))) + (own_ge p1 (894 : Int32))) + (own_ge p1 (895 : Int32))) + (own_ge p1 (8192 : Int32))) + (own_ge p1 (8204 : Int32))) + (own_ge p1 (8206 : Int32))) + (own_ge p1 (8304 : Int32))) + (own_ge p1 (8592 : Int32))) + (own_ge p1 (11264 : Int32))) + (own_ge p1 (12272 : Int32))) + (own_ge p1 (12289 : Int32))) + (own_ge p1 (55296 : Int32))))]) (lenOf pd_1 rfl) rfl (by show 2 * 0 + _ ≤ _; exact Nat.le_of_eq rfl) (hb hby d2_187) (fun _ _ => ⟨rfl, e24, (by decide : 0 + 0 ≤ _), (by decide : 0 + 0 ≤ _)⟩)
  dsimp only [Pt.U, Pt.locs, Pt.cells, Pt.slots] at X25 l25 y25 z25 st25 hQ25
  subst l25 y25 z25
  obtain ⟨rfl, N25q, e25⟩ := hQ25
  have N25 := Fr.app Np24 N25q
  refine Goes.step (S' := T25.setTop (mkF m 190 #[.val (.int p1), .unset] [(.int (own_ge p1 (63744 : Int32))), (.int ((((((((((((((((((((((((own_ge p1 (65 : Int32)) + (own_ge p1 (91 : Int32))) + (own_ge p1 (95 : Int32))) + (own_ge p1 (96 : Int32))) + (own_ge p1 (97 : Int32))) + (own_ge p1 (123 : Int32))) + (own_ge p1 (192 : Int32))) + (own_ge p1 (215 : Int32))) + (own_ge p1 (216 : Int32))) + (own_ge p1 (247 : Int32))) + (own_ge p1 (248 : Int32))) + (own_ge p1 (768 : Int32))) + (own_ge p1 (880 : Int32))) + (own_ge p1 (894 : Int32))) + (own_ge p1 (895 : Int32))) + (own_ge p1 (8192 : Int32))) + (own_ge p1 (8204 : Int32))) + (own_ge p1 (8206 : Int32))) + (own_ge p1 (8304 : Int32))) + (own_ge p1 (8592 : Int32))) + (own_ge p1 (11264 : Int32))) + (own_ge p1 (12272 : Int32))) + (own_ge p1 (12289 : Int32))) + (own_ge p1 (55296 : Int32))))])) (fun t k => st25 t k) ?_
  obtain ⟨Lp25, Xp25, Np25⟩ : ∃ L, Stand p l e ({ frames := 1, cells := 0, slots := 0, locals := 14 } : Room) s m #[(.int p1)] below meth c T25 L 0 0 ∧ Fr n0 L := ⟨_, X25, N25⟩
  clear X25 N25 N25q st25
  clear Xp24 Np24 e24
  clear Lp24 T24
  refine Goes.step (S' := T25.setTop (mkF m 191 #[.val (.int p1), .unset] [(.int (((((((((((((((((((((((((own_ge p1 (65 : Int32)) + (own_ge p1 (91 : Int32))) + (own_ge p1 (95 : Int32))) + (own_ge p1 (96 : Int32))) + (own_ge p1 (97 : Int32))) + (own_ge p1 (123 : Int32))) + (own_ge p1 (192 : Int32))) + (own_ge p1 (215 : Int32))) + (own_ge p1 (216 : Int32))) + (own_ge p1 (247 : Int32))) + (own_ge p1 (248 : Int32))) + (own_ge p1 (768 : Int32))) + (own_ge p1 (880 : Int32))) + (own_ge p1 (894 : Int32))) + (own_ge p1 (895 : Int32))) + (own_ge p1 (8192 : Int32))) + (own_ge p1 (8204 : Int32))) + (own_ge p1 (8206 : Int32))) + (own_ge p1 (8304 : Int32))) + (own_ge p1 (8592 : Int32))) + (own_ge p1 (11264 : Int32))) + (own_ge p1 (12272 : Int32))) + (own_ge p1 (12289 : Int32))) + (own_ge p1 (55296 : Int32))) + (own_ge p1 (63744 : Int32))))])) (fun t k => XS.iadd Xp25.here hx rfl (hb hby d2_190) rfl k) ?_
  refine Goes.step (S' := T25.setTop (mkF m 192 #[.val (.int p1), .unset] [(.int p1), (.int (((((((((((((((((((((((((own_ge p1 (65 : Int32)) + (own_ge p1 (91 : Int32))) + (own_ge p1 (95 : Int32))) + (own_ge p1 (96 : Int32))) + (own_ge p1 (97 : Int32))) + (own_ge p1 (123 : Int32))) + (own_ge p1 (192 : Int32))) + (own_ge p1 (215 : Int32))) + (own_ge p1 (216 : Int32))) + (own_ge p1 (247 : Int32))) + (own_ge p1 (248 : Int32))) + (own_ge p1 (768 : Int32))) + (own_ge p1 (880 : Int32))) + (own_ge p1 (894 : Int32))) + (own_ge p1 (895 : Int32))) + (own_ge p1 (8192 : Int32))) + (own_ge p1 (8204 : Int32))) + (own_ge p1 (8206 : Int32))) + (own_ge p1 (8304 : Int32))) + (own_ge p1 (8592 : Int32))) + (own_ge p1 (11264 : Int32))) + (own_ge p1 (12272 : Int32))) + (own_ge p1 (12289 : Int32))) + (own_ge p1 (55296 : Int32))) + (own_ge p1 (63744 : Int32))))])) (fun t k => XS.iloadN Xp25.here hx rfl (hb hby d2_191) rfl k) ?_
  refine Goes.step (S' := T25.setTop (mkF m 194 #[.val (.int p1), .unset] [(.int (64976 : Int32)), (.int p1), (.int (((((((((((((((((((((((((own_ge p1 (65 : Int32)) + (own_ge p1 (91 : Int32))) + (own_ge p1 (95 : Int32))) + (own_ge p1 (96 : Int32))) + (own_ge p1 (97 : Int32))) + (own_ge p1 (123 : Int32))) + (own_ge p1 (192 : Int32))) + (own_ge p1 (215 : Int32))) + (own_ge p1 (216 : Int32))) + (own_ge p1 (247 : Int32))) + (own_ge p1 (248 : Int32))) + (own_ge p1 (768 : Int32))) + (own_ge p1 (880 : Int32))) + (own_ge p1 (894 : Int32))) + (own_ge p1 (895 : Int32))) + (own_ge p1 (8192 : Int32))) + (own_ge p1 (8204 : Int32))) + (own_ge p1 (8206 : Int32))) + (own_ge p1 (8304 : Int32))) + (own_ge p1 (8592 : Int32))) + (own_ge p1 (11264 : Int32))) + (own_ge p1 (12272 : Int32))) + (own_ge p1 (12289 : Int32))) + (own_ge p1 (55296 : Int32))) + (own_ge p1 (63744 : Int32))))])) (fun t k => Xp25.ldcInt hx hown (mvT hZ (hw _ (List.mem_of_getElem? (i := 3) rfl))) (g := (mkF m 192 #[.val (.int p1), .unset] [(.int p1), (.int (((((((((((((((((((((((((own_ge p1 (65 : Int32)) + (own_ge p1 (91 : Int32))) + (own_ge p1 (95 : Int32))) + (own_ge p1 (96 : Int32))) + (own_ge p1 (97 : Int32))) + (own_ge p1 (123 : Int32))) + (own_ge p1 (192 : Int32))) + (own_ge p1 (215 : Int32))) + (own_ge p1 (216 : Int32))) + (own_ge p1 (247 : Int32))) + (own_ge p1 (248 : Int32))) + (own_ge p1 (768 : Int32))) + (own_ge p1 (880 : Int32))) + (own_ge p1 (894 : Int32))) + (own_ge p1 (895 : Int32))) + (own_ge p1 (8192 : Int32))) + (own_ge p1 (8204 : Int32))) + (own_ge p1 (8206 : Int32))) + (own_ge p1 (8304 : Int32))) + (own_ge p1 (8592 : Int32))) + (own_ge p1 (11264 : Int32))) + (own_ge p1 (12272 : Int32))) + (own_ge p1 (12289 : Int32))) + (own_ge p1 (55296 : Int32))) + (own_ge p1 (63744 : Int32))))])) rfl (hb hby d2_192) _ k) ?_
  obtain ⟨_, _, ⟨T26, L26, k26, n26⟩, -, X26, ⟨Lc26, hQ26, l26, y26, z26⟩, st26⟩ := Jvm.LawKit.callS Xp25 hx (y := (⟨"com/example/sapwood/sapwood/query/LexerIsNameStartPinLaw", "ge", "(II)I"⟩ : MethodName)) hown (mvT hZ (hw _ (List.mem_of_getElem? (i := 19) rfl))) (mvT hZ (hw _ (List.mem_of_getElem? (i := 20) rfl))) (mvT hZ (hw _ (List.mem_of_getElem? (i := 17) rfl))) (mvT hZ (hw _ (List.mem_of_getElem? (i := 21) rfl))) (by decide) (backOf (W := 1) (rm1 l Z a0 hw [] p1 (64976 : Int32) h0 n0 Z0) hZ (hw _ (List.mem_of_getElem? (i := 21) rfl)) (hw _ (List.mem_of_getElem? (i := 17) rfl)) (by decide) (by decide)) (g := (mkF m 194 #[.val (.int p1), .unset] [(.int (64976 : Int32)), (.int p1), (.int (((((((((((((((((((((((((own_ge p1 (65 : Int32)) + (own_ge p1 (91 : Int32))) + (own_ge p1 (95 : Int32))) + (own_ge p1 (96 : Int32))) + (own_ge p1 (97 : Int32))) + (own_ge p1 (123 : Int32))) + (own_ge p1 (192 : Int32))) + (own_ge p1 (215 : Int32))) + (own_ge p1 (216 : Int32))) + (own_ge p1 (247 : Int32))) + (own_ge p1 (248 : Int32))) + (own_ge p1 (768 : Int32))) + (own_ge p1 (880 : Int32))) + (own_ge p1 (894 : Int32))) + (own_ge p1 (895 : Int32))) + (own_ge p1 (8192 : Int32))) + (own_ge p1 (8204 : Int32))) + (own_ge p1 (8206 : Int32))) + (own_ge p1 (8304 : Int32))) + (own_ge p1 (8592 : Int32))) + (own_ge p1 (11264 : Int32))) + (own_ge p1 (12272 : Int32))) + (own_ge p1 (12289 : Int32))) + (own_ge p1 (55296 : Int32))) + (own_ge p1 (63744 : Int32))))])) rfl (by rw [hml]; rfl) (argsL := [(.int p1), (.int (64976 : Int32))]) (rest := [(.int (((((((((((((((((((((((((own_ge p1 (65 : Int32)) + (own_ge p1 (91 : Int32))) + (own_ge p1 (95 : Int32))) + (own_ge p1 (96 : Int32))) + (own_ge p1 (97 : Int32))) + (own_ge p1 (123 : Int32))) + (own_ge p1 (192 : Int32))) + (own_ge p1 (215 : Int32))) + (own_ge p1 (216 : Int32))) + (own_ge p1 (247 : Int32))) + (own_ge p1 (248 : Int32))) + (own_ge p1 (768 : Int32))) + (own_ge p1 (880 : Int32))) + (own_ge p1 (894 : Int32))) + (own_ge p1 (895 : Int32))) + (own_ge p1 (8192 : Int32))) + (own_ge p1 (8204 : Int32))) + (own_ge p1 (8206 : Int32))) + (own_ge p1 (8304 : Int32))) + (own_ge p1 (8592 : Int32))) + (own_ge p1 (11264 : Int32))) + (own_ge p1 (12272 : Int32))) + (own_ge p1 (12289 : Int32))) + (own_ge p1 (55296 : Int32))) + (own_ge p1 (63744 : Int32))))]) (lenOf pd_1 rfl) rfl (by show 2 * 0 + _ ≤ _; exact Nat.le_of_eq rfl) (hb hby d2_194) (fun _ _ => ⟨rfl, e25, (by decide : 0 + 0 ≤ _), (by decide : 0 + 0 ≤ _)⟩)
  dsimp only [Pt.U, Pt.locs, Pt.cells, Pt.slots] at X26 l26 y26 z26 st26 hQ26
  subst l26 y26 z26
  obtain ⟨rfl, N26q, e26⟩ := hQ26
  have N26 := Fr.app Np25 N26q
  refine Goes.step (S' := T26.setTop (mkF m 197 #[.val (.int p1), .unset] [(.int (own_ge p1 (64976 : Int32))), (.int (((((((((((((((((((((((((own_ge p1 (65 : Int32)) + (own_ge p1 (91 : Int32))) + (own_ge p1 (95 : Int32))) + (own_ge p1 (96 : Int32))) + (own_ge p1 (97 : Int32))) + (own_ge p1 (123 : Int32))) + (own_ge p1 (192 : Int32))) + (own_ge p1 (215 : Int32))) + (own_ge p1 (216 : Int32))) + (own_ge p1 (247 : Int32))) + (own_ge p1 (248 : Int32))) + (own_ge p1 (768 : Int32))) + (own_ge p1 (880 : Int32))) + (own_ge p1 (894 : Int32))) + (own_ge p1 (895 : Int32))) + (own_ge p1 (8192 : Int32))) + (own_ge p1 (8204 : Int32))) + (own_ge p1 (8206 : Int32))) + (own_ge p1 (8304 : Int32))) + (own_ge p1 (8592 : Int32))) + (own_ge p1 (11264 : Int32))) + (own_ge p1 (12272 : Int32))) + (own_ge p1 (12289 : Int32))) + (own_ge p1 (55296 : Int32))) + (own_ge p1 (63744 : Int32))))])) (fun t k => st26 t k) ?_
  obtain ⟨Lp26, Xp26, Np26⟩ : ∃ L, Stand p l e ({ frames := 1, cells := 0, slots := 0, locals := 14 } : Room) s m #[(.int p1)] below meth c T26 L 0 0 ∧ Fr n0 L := ⟨_, X26, N26⟩
  clear X26 N26 N26q st26
  clear Xp25 Np25 e25
  clear Lp25 T25
  refine Goes.step (S' := T26.setTop (mkF m 198 #[.val (.int p1), .unset] [(.int ((((((((((((((((((((((((((own_ge p1 (65 : Int32)) + (own_ge p1 (91 : Int32))) + (own_ge p1 (95 : Int32))) + (own_ge p1 (96 : Int32))) + (own_ge p1 (97 : Int32))) + (own_ge p1 (123 : Int32))) + (own_ge p1 (192 : Int32))) + (own_ge p1 (215 : Int32))) + (own_ge p1 (216 : Int32))) + (own_ge p1 (247 : Int32))) + (own_ge p1 (248 : Int32))) + (own_ge p1 (768 : Int32))) + (own_ge p1 (880 : Int32))) + (own_ge p1 (894 : Int32))) + (own_ge p1 (895 : Int32))) + (own_ge p1 (8192 : Int32))) + (own_ge p1 (8204 : Int32))) + (own_ge p1 (8206 : Int32))) + (own_ge p1 (8304 : Int32))) + (own_ge p1 (8592 : Int32))) + (own_ge p1 (11264 : Int32))) + (own_ge p1 (12272 : Int32))) + (own_ge p1 (12289 : Int32))) + (own_ge p1 (55296 : Int32))) + (own_ge p1 (63744 : Int32))) + (own_ge p1 (64976 : Int32))))])) (fun t k => XS.iadd Xp26.here hx rfl (hb hby d2_197) rfl k) ?_
  refine Goes.step (S' := T26.setTop (mkF m 199 #[.val (.int p1), .unset] [(.int p1), (.int ((((((((((((((((((((((((((own_ge p1 (65 : Int32)) + (own_ge p1 (91 : Int32))) + (own_ge p1 (95 : Int32))) + (own_ge p1 (96 : Int32))) + (own_ge p1 (97 : Int32))) + (own_ge p1 (123 : Int32))) + (own_ge p1 (192 : Int32))) + (own_ge p1 (215 : Int32))) + (own_ge p1 (216 : Int32))) + (own_ge p1 (247 : Int32))) + (own_ge p1 (248 : Int32))) + (own_ge p1 (768 : Int32))) + (own_ge p1 (880 : Int32))) + (own_ge p1 (894 : Int32))) + (own_ge p1 (895 : Int32))) + (own_ge p1 (8192 : Int32))) + (own_ge p1 (8204 : Int32))) + (own_ge p1 (8206 : Int32))) + (own_ge p1 (8304 : Int32))) + (own_ge p1 (8592 : Int32))) + (own_ge p1 (11264 : Int32))) + (own_ge p1 (12272 : Int32))) + (own_ge p1 (12289 : Int32))) + (own_ge p1 (55296 : Int32))) + (own_ge p1 (63744 : Int32))) + (own_ge p1 (64976 : Int32))))])) (fun t k => XS.iloadN Xp26.here hx rfl (hb hby d2_198) rfl k) ?_
  refine Goes.step (S' := T26.setTop (mkF m 201 #[.val (.int p1), .unset] [(.int (65008 : Int32)), (.int p1), (.int ((((((((((((((((((((((((((own_ge p1 (65 : Int32)) + (own_ge p1 (91 : Int32))) + (own_ge p1 (95 : Int32))) + (own_ge p1 (96 : Int32))) + (own_ge p1 (97 : Int32))) + (own_ge p1 (123 : Int32))) + (own_ge p1 (192 : Int32))) + (own_ge p1 (215 : Int32))) + (own_ge p1 (216 : Int32))) + (own_ge p1 (247 : Int32))) + (own_ge p1 (248 : Int32))) + (own_ge p1 (768 : Int32))) + (own_ge p1 (880 : Int32))) + (own_ge p1 (894 : Int32))) + (own_ge p1 (895 : Int32))) + (own_ge p1 (8192 : Int32))) + (own_ge p1 (8204 : Int32))) + (own_ge p1 (8206 : Int32))) + (own_ge p1 (8304 : Int32))) + (own_ge p1 (8592 : Int32))) + (own_ge p1 (11264 : Int32))) + (own_ge p1 (12272 : Int32))) + (own_ge p1 (12289 : Int32))) + (own_ge p1 (55296 : Int32))) + (own_ge p1 (63744 : Int32))) + (own_ge p1 (64976 : Int32))))])) (fun t k => Xp26.ldcInt hx hown (mvT hZ (hw _ (List.mem_of_getElem? (i := 4) rfl))) (g := (mkF m 199 #[.val (.int p1), .unset] [(.int p1), (.int ((((((((((((((((((((((((((own_ge p1 (65 : Int32)) + (own_ge p1 (91 : Int32))) + (own_ge p1 (95 : Int32))) + (own_ge p1 (96 : Int32))) + (own_ge p1 (97 : Int32))) + (own_ge p1 (123 : Int32))) + (own_ge p1 (192 : Int32))) + (own_ge p1 (215 : Int32))) + (own_ge p1 (216 : Int32))) + (own_ge p1 (247 : Int32))) + (own_ge p1 (248 : Int32))) + (own_ge p1 (768 : Int32))) + (own_ge p1 (880 : Int32))) + (own_ge p1 (894 : Int32))) + (own_ge p1 (895 : Int32))) + (own_ge p1 (8192 : Int32))) + (own_ge p1 (8204 : Int32))) + (own_ge p1 (8206 : Int32))) + (own_ge p1 (8304 : Int32))) + (own_ge p1 (8592 : Int32))) + (own_ge p1 (11264 : Int32))) + (own_ge p1 (12272 : Int32))) + (own_ge p1 (12289 : Int32))) + (own_ge p1 (55296 : Int32))) + (own_ge p1 (63744 : Int32))) + (own_ge p1 (64976 : Int32))))])) rfl (hb hby d2_199) _ k) ?_
  obtain ⟨_, _, ⟨T27, L27, k27, n27⟩, -, X27, ⟨Lc27, hQ27, l27, y27, z27⟩, st27⟩ := Jvm.LawKit.callS Xp26 hx (y := (⟨"com/example/sapwood/sapwood/query/LexerIsNameStartPinLaw", "ge", "(II)I"⟩ : MethodName)) hown (mvT hZ (hw _ (List.mem_of_getElem? (i := 19) rfl))) (mvT hZ (hw _ (List.mem_of_getElem? (i := 20) rfl))) (mvT hZ (hw _ (List.mem_of_getElem? (i := 17) rfl))) (mvT hZ (hw _ (List.mem_of_getElem? (i := 21) rfl))) (by decide) (backOf (W := 1) (rm1 l Z a0 hw [] p1 (65008 : Int32) h0 n0 Z0) hZ (hw _ (List.mem_of_getElem? (i := 21) rfl)) (hw _ (List.mem_of_getElem? (i := 17) rfl)) (by decide) (by decide)) (g := (mkF m 201 #[.val (.int p1), .unset] [(.int (65008 : Int32)), (.int p1), (.int ((((((((((((((((((((((((((own_ge p1 (65 : Int32)) + (own_ge p1 (91 : Int32))) + (own_ge p1 (95 : Int32))) + (own_ge p1 (96 : Int32))) + (own_ge p1 (97 : Int32))) + (own_ge p1 (123 : Int32))) + (own_ge p1 (192 : Int32))) + (own_ge p1 (215 : Int32))) + (own_ge p1 (216 : Int32))) + (own_ge p1 (247 : Int32))) + (own_ge p1 (248 : Int32))) + (own_ge p1 (768 : Int32))) + (own_ge p1 (880 : Int32))) + (own_ge p1 (894 : Int32))) + (own_ge p1 (895 : Int32))) + (own_ge p1 (8192 : Int32))) + (own_ge p1 (8204 : Int32))) + (own_ge p1 (8206 : Int32))) + (own_ge p1 (8304 : Int32))) + (own_ge p1 (8592 : Int32))) + (own_ge p1 (11264 : Int32))) + (own_ge p1 (12272 : Int32))) + (own_ge p1 (12289 : Int32))) + (own_ge p1 (55296 : Int32))) + (own_ge p1 (63744 : Int32))) + (own_ge p1 (64976 : Int32))))])) rfl (by rw [hml]; rfl) (argsL := [(.int p1), (.int (65008 : Int32))]) (rest := [(.int ((((((((((((((((((((((((((own_ge p1 (65 : Int32)) + (own_ge p1 (91 : Int32))) + (own_ge p1 (95 : Int32))) + (own_ge p1 (96 : Int32))) + (own_ge p1 (97 : Int32))) + (own_ge p1 (123 : Int32))) + (own_ge p1 (192 : Int32))) + (own_ge p1 (215 : Int32))) + (own_ge p1 (216 : Int32))) + (own_ge p1 (247 : Int32))) + (own_ge p1 (248 : Int32))) + (own_ge p1 (768 : Int32))) + (own_ge p1 (880 : Int32))) + (own_ge p1 (894 : Int32))) + (own_ge p1 (895 : Int32))) + (own_ge p1 (8192 : Int32))) + (own_ge p1 (8204 : Int32))) + (own_ge p1 (8206 : Int32))) + (own_ge p1 (8304 : Int32))) + (own_ge p1 (8592 : Int32))) + (own_ge p1 (11264 : Int32))) + (own_ge p1 (12272 : Int32))) + (own_ge p1 (12289 : Int32))) + (own_ge p1 (55296 : Int32))) + (own_ge p1 (63744 : Int32))) + (own_ge p1 (64976 : Int32))))]) (lenOf pd_1 rfl) rfl (by show 2 * 0 + _ ≤ _; exact Nat.le_of_eq rfl) (hb hby d2_201) (fun _ _ => ⟨rfl, e26, (by decide : 0 + 0 ≤ _), (by decide : 0 + 0 ≤ _)⟩)
  dsimp only [Pt.U, Pt.locs, Pt.cells, Pt.slots] at X27 l27 y27 z27 st27 hQ27
  subst l27 y27 z27
  obtain ⟨rfl, N27q, e27⟩ := hQ27
  have N27 := Fr.app Np26 N27q
  refine Goes.step (S' := T27.setTop (mkF m 204 #[.val (.int p1), .unset] [(.int (own_ge p1 (65008 : Int32))), (.int ((((((((((((((((((((((((((own_ge p1 (65 : Int32)) + (own_ge p1 (91 : Int32))) + (own_ge p1 (95 : Int32))) + (own_ge p1 (96 : Int32))) + (own_ge p1 (97 : Int32))) + (own_ge p1 (123 : Int32))) + (own_ge p1 (192 : Int32))) + (own_ge p1 (215 : Int32))) + (own_ge p1 (216 : Int32))) + (own_ge p1 (247 : Int32))) + (own_ge p1 (248 : Int32))) + (own_ge p1 (768 : Int32))) + (own_ge p1 (880 : Int32))) + (own_ge p1 (894 : Int32))) + (own_ge p1 (895 : Int32))) + (own_ge p1 (8192 : Int32))) + (own_ge p1 (8204 : Int32))) + (own_ge p1 (8206 : Int32))) + (own_ge p1 (8304 : Int32))) + (own_ge p1 (8592 : Int32))) + (own_ge p1 (11264 : Int32))) + (own_ge p1 (12272 : Int32))) + (own_ge p1 (12289 : Int32))) + (own_ge p1 (55296 : Int32))) + (own_ge p1 (63744 : Int32))) + (own_ge p1 (64976 : Int32))))])) (fun t k => st27 t k) ?_
  obtain ⟨Lp27, Xp27, Np27⟩ : ∃ L, Stand p l e ({ frames := 1, cells := 0, slots := 0, locals := 14 } : Room) s m #[(.int p1)] below meth c T27 L 0 0 ∧ Fr n0 L := ⟨_, X27, N27⟩
  clear X27 N27 N27q st27
  clear Xp26 Np26 e26
  clear Lp26 T26
  refine Goes.step (S' := T27.setTop (mkF m 205 #[.val (.int p1), .unset] [(.int (((((((((((((((((((((((((((own_ge p1 (65 : Int32)) + (own_ge p1 (91 : Int32))) + (own_ge p1 (95 : Int32))) + (own_ge p1 (96 : Int32))) + (own_ge p1 (97 : Int32))) + (own_ge p1 (123 : Int32))) + (own_ge p1 (192 : Int32))) + (own_ge p1 (215 : Int32))) + (own_ge p1 (216 : Int32))) + (own_ge p1 (247 : Int32))) + (own_ge p1 (248 : Int32))) + (own_ge p1 (768 : Int32))) + (own_ge p1 (880 : Int32))) + (own_ge p1 (894 : Int32))) + (own_ge p1 (895 : Int32))) + (own_ge p1 (8192 : Int32))) + (own_ge p1 (8204 : Int32))) + (own_ge p1 (8206 : Int32))) + (own_ge p1 (8304 : Int32))) + (own_ge p1 (8592 : Int32))) + (own_ge p1 (11264 : Int32))) + (own_ge p1 (12272 : Int32))) + (own_ge p1 (12289 : Int32))) + (own_ge p1 (55296 : Int32))) + (own_ge p1 (63744 : Int32))) + (own_ge p1 (64976 : Int32))) + (own_ge p1 (65008 : Int32))))])) (fun t k => XS.iadd Xp27.here hx rfl (hb hby d2_204) rfl k) ?_
  refine Goes.step (S' := T27.setTop (mkF m 206 #[.val (.int p1), .unset] [(.int p1), (.int (((((((((((((((((((((((((((own_ge p1 (65 : Int32)) + (own_ge p1 (91 : Int32))) + (own_ge p1 (95 : Int32))) + (own_ge p1 (96 : Int32))) + (own_ge p1 (97 : Int32))) + (own_ge p1 (123 : Int32))) + (own_ge p1 (192 : Int32))) + (own_ge p1 (215 : Int32))) + (own_ge p1 (216 : Int32))) + (own_ge p1 (247 : Int32))) + (own_ge p1 (248 : Int32))) + (own_ge p1 (768 : Int32))) + (own_ge p1 (880 : Int32))) + (own_ge p1 (894 : Int32))) + (own_ge p1 (895 : Int32))) + (own_ge p1 (8192 : Int32))) + (own_ge p1 (8204 : Int32))) + (own_ge p1 (8206 : Int32))) + (own_ge p1 (8304 : Int32))) + (own_ge p1 (8592 : Int32))) + (own_ge p1 (11264 : Int32))) + (own_ge p1 (12272 : Int32))) + (own_ge p1 (12289 : Int32))) + (own_ge p1 (55296 : Int32))) + (own_ge p1 (63744 : Int32))) + (own_ge p1 (64976 : Int32))) + (own_ge p1 (65008 : Int32))))])) (fun t k => XS.iloadN Xp27.here hx rfl (hb hby d2_205) rfl k) ?_
  refine Goes.step (S' := T27.setTop (mkF m 208 #[.val (.int p1), .unset] [(.int (65534 : Int32)), (.int p1), (.int (((((((((((((((((((((((((((own_ge p1 (65 : Int32)) + (own_ge p1 (91 : Int32))) + (own_ge p1 (95 : Int32))) + (own_ge p1 (96 : Int32))) + (own_ge p1 (97 : Int32))) + (own_ge p1 (123 : Int32))) + (own_ge p1 (192 : Int32))) + (own_ge p1 (215 : Int32))) + (own_ge p1 (216 : Int32))) + (own_ge p1 (247 : Int32))) + (own_ge p1 (248 : Int32))) + (own_ge p1 (768 : Int32))) + (own_ge p1 (880 : Int32))) + (own_ge p1 (894 : Int32))) + (own_ge p1 (895 : Int32))) + (own_ge p1 (8192 : Int32))) + (own_ge p1 (8204 : Int32))) + (own_ge p1 (8206 : Int32))) + (own_ge p1 (8304 : Int32))) + (own_ge p1 (8592 : Int32))) + (own_ge p1 (11264 : Int32))) + (own_ge p1 (12272 : Int32))) + (own_ge p1 (12289 : Int32))) + (own_ge p1 (55296 : Int32))) + (own_ge p1 (63744 : Int32))) + (own_ge p1 (64976 : Int32))) + (own_ge p1 (65008 : Int32))))])) (fun t k => Xp27.ldcInt hx hown (mvT hZ (hw _ (List.mem_of_getElem? (i := 5) rfl))) (g := (mkF m 206 #[.val (.int p1), .unset] [(.int p1), (.int (((((((((((((((((((((((((((own_ge p1 (65 : Int32)) + (own_ge p1 (91 : Int32))) + (own_ge p1 (95 : Int32))) + (own_ge p1 (96 : Int32))) + (own_ge p1 (97 : Int32))) + (own_ge p1 (123 : Int32))) + (own_ge p1 (192 : Int32))) + (own_ge p1 (215 : Int32))) + (own_ge p1 (216 : Int32))) + (own_ge p1 (247 : Int32))) + (own_ge p1 (248 : Int32))) + (own_ge p1 (768 : Int32))) + (own_ge p1 (880 : Int32))) + (own_ge p1 (894 : Int32))) + (own_ge p1 (895 : Int32))) + (own_ge p1 (8192 : Int32))) + (own_ge p1 (8204 : Int32))) + (own_ge p1 (8206 : Int32))) + (own_ge p1 (8304 : Int32))) + (own_ge p1 (8592 : Int32))) + (own_ge p1 (11264 : Int32))) + (own_ge p1 (12272 : Int32))) + (own_ge p1 (12289 : Int32))) + (own_ge p1 (55296 : Int32))) + (own_ge p1 (63744 : Int32))) + (own_ge p1 (64976 : Int32))) + (own_ge p1 (65008 : Int32))))])) rfl (hb hby d2_206) _ k) ?_
  obtain ⟨_, _, ⟨T28, L28, k28, n28⟩, -, X28, ⟨Lc28, hQ28, l28, y28, z28⟩, st28⟩ := Jvm.LawKit.callS Xp27 hx (y := (⟨"com/example/sapwood/sapwood/query/LexerIsNameStartPinLaw", "ge", "(II)I"⟩ : MethodName)) hown (mvT hZ (hw _ (List.mem_of_getElem? (i := 19) rfl))) (mvT hZ (hw _ (List.mem_of_getElem? (i := 20) rfl))) (mvT hZ (hw _ (List.mem_of_getElem? (i := 17) rfl))) (mvT hZ (hw _ (List.mem_of_getElem? (i := 21) rfl))) (by decide) (backOf (W := 1) (rm1 l Z a0 hw [] p1 (65534 : Int32) h0 n0 Z0) hZ (hw _ (List.mem_of_getElem? (i := 21) rfl)) (hw _ (List.mem_of_getElem? (i := 17) rfl)) (by decide) (by decide)) (g := (mkF m 208 #[.val (.int p1), .unset] [(.int (65534 : Int32)), (.int p1), (.int (((((((((((((((((((((((((((own_ge p1 (65 : Int32)) + (own_ge p1 (91 : Int32))) + (own_ge p1 (95 : Int32))) + (own_ge p1 (96 : Int32))) + (own_ge p1 (97 : Int32))) + (own_ge p1 (123 : Int32))) + (own_ge p1 (192 : Int32))) + (own_ge p1 (215 : Int32))) + (own_ge p1 (216 : Int32))) + (own_ge p1 (247 : Int32))) + (own_ge p1 (248 : Int32))) + (own_ge p1 (768 : Int32))) + (own_ge p1 (880 : Int32))) + (own_ge p1 (894 : Int32))) + (own_ge p1 (895 : Int32))) + (own_ge p1 (8192 : Int32))) + (own_ge p1 (8204 : Int32))) + (own_ge p1 (8206 : Int32))) + (own_ge p1 (8304 : Int32))) + (own_ge p1 (8592 : Int32))) + (own_ge p1 (11264 : Int32))) + (own_ge p1 (12272 : Int32))) + (own_ge p1 (12289 : Int32))) + (own_ge p1 (55296 : Int32))) + (own_ge p1 (63744 : Int32))) + (own_ge p1 (64976 : Int32))) + (own_ge p1 (65008 : Int32))))])) rfl (by rw [hml]; rfl) (argsL := [(.int p1), (.int (65534 : Int32))]) (rest := [(.int (((((((((((((((((((((((((((own_ge p1 (65 : Int32)) + (own_ge p1 (91 : Int32))) + (own_ge p1 (95 : Int32))) + (own_ge p1 (96 : Int32))) + (own_ge p1 (97 : Int32))) + (own_ge p1 (123 : Int32))) + (own_ge p1 (192 : Int32))) + (own_ge p1 (215 : Int32))) + (own_ge p1 (216 : Int32))) + (own_ge p1 (247 : Int32))) + (own_ge p1 (248 : Int32))) + (own_ge p1 (768 : Int32))) + (own_ge p1 (880 : Int32))) + (own_ge p1 (894 : Int32))) + (own_ge p1 (895 : Int32))) + (own_ge p1 (8192 : Int32))) + (own_ge p1 (8204 : Int32))) + (own_ge p1 (8206 : Int32))) + (own_ge p1 (8304 : Int32))) + (own_ge p1 (8592 : Int32))) + (own_ge p1 (11264 : Int32))) + (own_ge p1 (12272 : Int32))) + (own_ge p1 (12289 : Int32))) + (own_ge p1 (55296 : Int32))) + (own_ge p1 (63744 : Int32))) + (own_ge p1 (64976 : Int32))) + (own_ge p1 (65008 : Int32))))]) (lenOf pd_1 rfl) rfl (by show 2 * 0 + _ ≤ _; exact Nat.le_of_eq rfl) (hb hby d2_208) (fun _ _ => ⟨rfl, e27, (by decide : 0 + 0 ≤ _), (by decide : 0 + 0 ≤ _)⟩)
  dsimp only [Pt.U, Pt.locs, Pt.cells, Pt.slots] at X28 l28 y28 z28 st28 hQ28
  subst l28 y28 z28
  obtain ⟨rfl, N28q, e28⟩ := hQ28
  have N28 := Fr.app Np27 N28q
  refine Goes.step (S' := T28.setTop (mkF m 211 #[.val (.int p1), .unset] [(.int (own_ge p1 (65534 : Int32))), (.int (((((((((((((((((((((((((((own_ge p1 (65 : Int32)) + (own_ge p1 (91 : Int32))) + (own_ge p1 (95 : Int32))) + (own_ge p1 (96 : Int32))) + (own_ge p1 (97 : Int32))) + (own_ge p1 (123 : Int32))) + (own_ge p1 (192 : Int32))) + (own_ge p1 (215 : Int32))) + (own_ge p1 (216 : Int32))) + (own_ge p1 (247 : Int32))) + (own_ge p1 (248 : Int32))) + (own_ge p1 (768 : Int32))) + (own_ge p1 (880 : Int32))) + (own_ge p1 (894 : Int32))) + (own_ge p1 (895 : Int32))) + (own_ge p1 (8192 : Int32))) + (own_ge p1 (8204 : Int32))) + (own_ge p1 (8206 : Int32))) + (own_ge p1 (8304 : Int32))) + (own_ge p1 (8592 : Int32))) + (own_ge p1 (11264 : Int32))) + (own_ge p1 (12272 : Int32))) + (own_ge p1 (12289 : Int32))) + (own_ge p1 (55296 : Int32))) + (own_ge p1 (63744 : Int32))) + (own_ge p1 (64976 : Int32))) + (own_ge p1 (65008 : Int32))))])) (fun t k => st28 t k) ?_
  obtain ⟨Lp28, Xp28, Np28⟩ : ∃ L, Stand p l e ({ frames := 1, cells := 0, slots := 0, locals := 14 } : Room) s m #[(.int p1)] below meth c T28 L 0 0 ∧ Fr n0 L := ⟨_, X28, N28⟩
  clear X28 N28 N28q st28
  clear Xp27 Np27 e27
  clear Lp27 T27
  refine Goes.step (S' := T28.setTop (mkF m 212 #[.val (.int p1), .unset] [(.int ((((((((((((((((((((((((((((own_ge p1 (65 : Int32)) + (own_ge p1 (91 : Int32))) + (own_ge p1 (95 : Int32))) + (own_ge p1 (96 : Int32))) + (own_ge p1 (97 : Int32))) + (own_ge p1 (123 : Int32))) + (own_ge p1 (192 : Int32))) + (own_ge p1 (215 : Int32))) + (own_ge p1 (216 : Int32))) + (own_ge p1 (247 : Int32))) + (own_ge p1 (248 : Int32))) + (own_ge p1 (768 : Int32))) + (own_ge p1 (880 : Int32))) + (own_ge p1 (894 : Int32))) + (own_ge p1 (895 : Int32))) + (own_ge p1 (8192 : Int32))) + (own_ge p1 (8204 : Int32))) + (own_ge p1 (8206 : Int32))) + (own_ge p1 (8304 : Int32))) + (own_ge p1 (8592 : Int32))) + (own_ge p1 (11264 : Int32))) + (own_ge p1 (12272 : Int32))) + (own_ge p1 (12289 : Int32))) + (own_ge p1 (55296 : Int32))) + (own_ge p1 (63744 : Int32))) + (own_ge p1 (64976 : Int32))) + (own_ge p1 (65008 : Int32))) + (own_ge p1 (65534 : Int32))))])) (fun t k => XS.iadd Xp28.here hx rfl (hb hby d2_211) rfl k) ?_
  refine Goes.step (S' := T28.setTop (mkF m 213 #[.val (.int p1), .unset] [(.int p1), (.int ((((((((((((((((((((((((((((own_ge p1 (65 : Int32)) + (own_ge p1 (91 : Int32))) + (own_ge p1 (95 : Int32))) + (own_ge p1 (96 : Int32))) + (own_ge p1 (97 : Int32))) + (own_ge p1 (123 : Int32))) + (own_ge p1 (192 : Int32))) + (own_ge p1 (215 : Int32))) + (own_ge p1 (216 : Int32))) + (own_ge p1 (247 : Int32))) + (own_ge p1 (248 : Int32))) + (own_ge p1 (768 : Int32))) + (own_ge p1 (880 : Int32))) + (own_ge p1 (894 : Int32))) + (own_ge p1 (895 : Int32))) + (own_ge p1 (8192 : Int32))) + (own_ge p1 (8204 : Int32))) + (own_ge p1 (8206 : Int32))) + (own_ge p1 (8304 : Int32))) + (own_ge p1 (8592 : Int32))) + (own_ge p1 (11264 : Int32))) + (own_ge p1 (12272 : Int32))) + (own_ge p1 (12289 : Int32))) + (own_ge p1 (55296 : Int32))) + (own_ge p1 (63744 : Int32))) + (own_ge p1 (64976 : Int32))) + (own_ge p1 (65008 : Int32))) + (own_ge p1 (65534 : Int32))))])) (fun t k => XS.iloadN Xp28.here hx rfl (hb hby d2_212) rfl k) ?_
  refine Goes.step (S' := T28.setTop (mkF m 215 #[.val (.int p1), .unset] [(.int (65536 : Int32)), (.int p1), (.int ((((((((((((((((((((((((((((own_ge p1 (65 : Int32)) + (own_ge p1 (91 : Int32))) + (own_ge p1 (95 : Int32))) + (own_ge p1 (96 : Int32))) + (own_ge p1 (97 : Int32))) + (own_ge p1 (123 : Int32))) + (own_ge p1 (192 : Int32))) + (own_ge p1 (215 : Int32))) + (own_ge p1 (216 : Int32))) + (own_ge p1 (247 : Int32))) + (own_ge p1 (248 : Int32))) + (own_ge p1 (768 : Int32))) + (own_ge p1 (880 : Int32))) + (own_ge p1 (894 : Int32))) + (own_ge p1 (895 : Int32))) + (own_ge p1 (8192 : Int32))) + (own_ge p1 (8204 : Int32))) + (own_ge p1 (8206 : Int32))) + (own_ge p1 (8304 : Int32))) + (own_ge p1 (8592 : Int32))) + (own_ge p1 (11264 : Int32))) + (own_ge p1 (12272 : Int32))) + (own_ge p1 (12289 : Int32))) + (own_ge p1 (55296 : Int32))) + (own_ge p1 (63744 : Int32))) + (own_ge p1 (64976 : Int32))) + (own_ge p1 (65008 : Int32))) + (own_ge p1 (65534 : Int32))))])) (fun t k => Xp28.ldcInt hx hown (mvT hZ (hw _ (List.mem_of_getElem? (i := 6) rfl))) (g := (mkF m 213 #[.val (.int p1), .unset] [(.int p1), (.int ((((((((((((((((((((((((((((own_ge p1 (65 : Int32)) + (own_ge p1 (91 : Int32))) + (own_ge p1 (95 : Int32))) + (own_ge p1 (96 : Int32))) + (own_ge p1 (97 : Int32))) + (own_ge p1 (123 : Int32))) + (own_ge p1 (192 : Int32))) + (own_ge p1 (215 : Int32))) + (own_ge p1 (216 : Int32))) + (own_ge p1 (247 : Int32))) + (own_ge p1 (248 : Int32))) + (own_ge p1 (768 : Int32))) + (own_ge p1 (880 : Int32))) + (own_ge p1 (894 : Int32))) + (own_ge p1 (895 : Int32))) + (own_ge p1 (8192 : Int32))) + (own_ge p1 (8204 : Int32))) + (own_ge p1 (8206 : Int32))) + (own_ge p1 (8304 : Int32))) + (own_ge p1 (8592 : Int32))) + (own_ge p1 (11264 : Int32))) + (own_ge p1 (12272 : Int32))) + (own_ge p1 (12289 : Int32))) + (own_ge p1 (55296 : Int32))) + (own_ge p1 (63744 : Int32))) + (own_ge p1 (64976 : Int32))) + (own_ge p1 (65008 : Int32))) + (own_ge p1 (65534 : Int32))))])) rfl (hb hby d2_213) _ k) ?_
  obtain ⟨_, _, ⟨T29, L29, k29, n29⟩, -, X29, ⟨Lc29, hQ29, l29, y29, z29⟩, st29⟩ := Jvm.LawKit.callS Xp28 hx (y := (⟨"com/example/sapwood/sapwood/query/LexerIsNameStartPinLaw", "ge", "(II)I"⟩ : MethodName)) hown (mvT hZ (hw _ (List.mem_of_getElem? (i := 19) rfl))) (mvT hZ (hw _ (List.mem_of_getElem? (i := 20) rfl))) (mvT hZ (hw _ (List.mem_of_getElem? (i := 17) rfl))) (mvT hZ (hw _ (List.mem_of_getElem? (i := 21) rfl))) (by decide) (backOf (W := 1) (rm1 l Z a0 hw [] p1 (65536 : Int32) h0 n0 Z0) hZ (hw _ (List.mem_of_getElem? (i := 21) rfl)) (hw _ (List.mem_of_getElem? (i := 17) rfl)) (by decide) (by decide)) (g := (mkF m 215 #[.val (.int p1), .unset] [(.int (65536 : Int32)), (.int p1), (.int ((((((((((((((((((((((((((((own_ge p1 (65 : Int32)) + (own_ge p1 (91 : Int32))) + (own_ge p1 (95 : Int32))) + (own_ge p1 (96 : Int32))) + (own_ge p1 (97 : Int32))) + (own_ge p1 (123 : Int32))) + (own_ge p1 (192 : Int32))) + (own_ge p1 (215 : Int32))) + (own_ge p1 (216 : Int32))) + (own_ge p1 (247 : Int32))) + (own_ge p1 (248 : Int32))) + (own_ge p1 (768 : Int32))) + (own_ge p1 (880 : Int32))) + (own_ge p1 (894 : Int32))) + (own_ge p1 (895 : Int32))) + (own_ge p1 (8192 : Int32))) + (own_ge p1 (8204 : Int32))) + (own_ge p1 (8206 : Int32))) + (own_ge p1 (8304 : Int32))) + (own_ge p1 (8592 : Int32))) + (own_ge p1 (11264 : Int32))) + (own_ge p1 (12272 : Int32))) + (own_ge p1 (12289 : Int32))) + (own_ge p1 (55296 : Int32))) + (own_ge p1 (63744 : Int32))) + (own_ge p1 (64976 : Int32))) + (own_ge p1 (65008 : Int32))) + (own_ge p1 (65534 : Int32))))])) rfl (by rw [hml]; rfl) (argsL := [(.int p1), (.int (65536 : Int32))]) (rest := [(.int ((((((((((((((((((((((((((((own_ge p1 (65 : Int32)) + (own_ge p1 (91 : Int32))) + (own_ge p1 (95 : Int32))) + (own_ge p1 (96 : Int32))) + (own_ge p1 (97 : Int32))) + (own_ge p1 (123 : Int32))) + (own_ge p1 (192 : Int32))) + (own_ge p1 (215 : Int32))) + (own_ge p1 (216 : Int32))) + (own_ge p1 (247 : Int32))) + (own_ge p1 (248 : Int32))) + (own_ge p1 (768 : Int32))) + (own_ge p1 (880 : Int32))) + (own_ge p1 (894 : Int32))) + (own_ge p1 (895 : Int32))) + (own_ge p1 (8192 : Int32))) + (own_ge p1 (8204 : Int32))) + (own_ge p1 (8206 : Int32))) + (own_ge p1 (8304 : Int32))) + (own_ge p1 (8592 : Int32))) + (own_ge p1 (11264 : Int32))) + (own_ge p1 (12272 : Int32))) + (own_ge p1 (12289 : Int32))) + (own_ge p1 (55296 : Int32))) + (own_ge p1 (63744 : Int32))) + (own_ge p1 (64976 : Int32))) + (own_ge p1 (65008 : Int32))) + (own_ge p1 (65534 : Int32))))]) (lenOf pd_1 rfl) rfl (by show 2 * 0 + _ ≤ _; exact Nat.le_of_eq rfl) (hb hby d2_215) (fun _ _ => ⟨rfl, e28, (by decide : 0 + 0 ≤ _), (by decide : 0 + 0 ≤ _)⟩)
  dsimp only [Pt.U, Pt.locs, Pt.cells, Pt.slots] at X29 l29 y29 z29 st29 hQ29
  subst l29 y29 z29
  obtain ⟨rfl, N29q, e29⟩ := hQ29
  have N29 := Fr.app Np28 N29q
  refine Goes.step (S' := T29.setTop (mkF m 218 #[.val (.int p1), .unset] [(.int (own_ge p1 (65536 : Int32))), (.int ((((((((((((((((((((((((((((own_ge p1 (65 : Int32)) + (own_ge p1 (91 : Int32))) + (own_ge p1 (95 : Int32))) + (own_ge p1 (96 : Int32))) + (own_ge p1 (97 : Int32))) + (own_ge p1 (123 : Int32))) + (own_ge p1 (192 : Int32))) + (own_ge p1 (215 : Int32))) + (own_ge p1 (216 : Int32))) + (own_ge p1 (247 : Int32))) + (own_ge p1 (248 : Int32))) + (own_ge p1 (768 : Int32))) + (own_ge p1 (880 : Int32))) + (own_ge p1 (894 : Int32))) + (own_ge p1 (895 : Int32))) + (own_ge p1 (8192 : Int32))) + (own_ge p1 (8204 : Int32))) + (own_ge p1 (8206 : Int32))) + (own_ge p1 (8304 : Int32))) + (own_ge p1 (8592 : Int32))) + (own_ge p1 (11264 : Int32))) + (own_ge p1 (12272 : Int32))) + (own_ge p1 (12289 : Int32))) + (own_ge p1 (55296 : Int32))) + (own_ge p1 (63744 : Int32))) + (own_ge p1 (64976 : Int32))) + (own_ge p1 (65008 : Int32))) + (own_ge p1 (65534 : Int32))))])) (fun t k => st29 t k) ?_
  obtain ⟨Lp29, Xp29, Np29⟩ : ∃ L, Stand p l e ({ frames := 1, cells := 0, slots := 0, locals := 14 } : Room) s m #[(.int p1)] below meth c T29 L 0 0 ∧ Fr n0 L := ⟨_, X29, N29⟩
  clear X29 N29 N29q st29
  clear Xp28 Np28 e28
  clear Lp28 T28
  refine Goes.step (S' := T29.setTop (mkF m 219 #[.val (.int p1), .unset] [(.int (((((((((((((((((((((((((((((own_ge p1 (65 : Int32)) + (own_ge p1 (91 : Int32))) + (own_ge p1 (95 : Int32))) + (own_ge p1 (96 : Int32))) + (own_ge p1 (97 : Int32))) + (own_ge p1 (123 : Int32))) + (own_ge p1 (192 : Int32))) + (own_ge p1 (215 : Int32))) + (own_ge p1 (216 : Int32))) + (own_ge p1 (247 : Int32))) + (own_ge p1 (248 : Int32))) + (own_ge p1 (768 : Int32))) + (own_ge p1 (880 : Int32))) + (own_ge p1 (894 : Int32))) + (own_ge p1 (895 : Int32))) + (own_ge p1 (8192 : Int32))) + (own_ge p1 (8204 : Int32))) + (own_ge p1 (8206 : Int32))) + (own_ge p1 (8304 : Int32))) + (own_ge p1 (8592 : Int32))) + (own_ge p1 (11264 : Int32))) + (own_ge p1 (12272 : Int32))) + (own_ge p1 (12289 : Int32))) + (own_ge p1 (55296 : Int32))) + (own_ge p1 (63744 : Int32))) + (own_ge p1 (64976 : Int32))) + (own_ge p1 (65008 : Int32))) + (own_ge p1 (65534 : Int32))) + (own_ge p1 (65536 : Int32))))])) (fun t k => XS.iadd Xp29.here hx rfl (hb hby d2_218) rfl k) ?_
  refine Goes.step (S' := T29.setTop (mkF m 220 #[.val (.int p1), .unset] [(.int p1), (.int (((((((((((((((((((((((((((((own_ge p1 (65 : Int32)) + (own_ge p1 (91 : Int32))) + (own_ge p1 (95 : Int32))) + (own_ge p1 (96 : Int32))) + (own_ge p1 (97 : Int32))) + (own_ge p1 (123 : Int32))) + (own_ge p1 (192 : Int32))) + (own_ge p1 (215 : Int32))) + (own_ge p1 (216 : Int32))) + (own_ge p1 (247 : Int32))) + (own_ge p1 (248 : Int32))) + (own_ge p1 (768 : Int32))) + (own_ge p1 (880 : Int32))) + (own_ge p1 (894 : Int32))) + (own_ge p1 (895 : Int32))) + (own_ge p1 (8192 : Int32))) + (own_ge p1 (8204 : Int32))) + (own_ge p1 (8206 : Int32))) + (own_ge p1 (8304 : Int32))) + (own_ge p1 (8592 : Int32))) + (own_ge p1 (11264 : Int32))) + (own_ge p1 (12272 : Int32))) + (own_ge p1 (12289 : Int32))) + (own_ge p1 (55296 : Int32))) + (own_ge p1 (63744 : Int32))) + (own_ge p1 (64976 : Int32))) + (own_ge p1 (65008 : Int32))) + (own_ge p1 (65534 : Int32))) + (own_ge p1 (65536 : Int32))))])) (fun t k => XS.iloadN Xp29.here hx rfl (hb hby d2_219) rfl k) ?_
  refine Goes.step (S' := T29.setTop (mkF m 222 #[.val (.int p1), .unset] [(.int (983040 : Int32)), (.int p1), (.int (((((((((((((((((((((((((((((own_ge p1 (65 : Int32)) + (own_ge p1 (91 : Int32))) + (own_ge p1 (95 : Int32))) + (own_ge p1 (96 : Int32))) + (own_ge p1 (97 : Int32))) + (own_ge p1 (123 : Int32))) + (own_ge p1 (192 : Int32))) + (own_ge p1 (215 : Int32))) + (own_ge p1 (216 : Int32))) + (own_ge p1 (247 : Int32))) + (own_ge p1 (248 : Int32))) + (own_ge p1 (768 : Int32))) + (own_ge p1 (880 : Int32))) + (own_ge p1 (894 : Int32))) + (own_ge p1 (895 : Int32))) + (own_ge p1 (8192 : Int32))) + (own_ge p1 (8204 : Int32))) + (own_ge p1 (8206 : Int32))) + (own_ge p1 (8304 : Int32))) + (own_ge p1 (8592 : Int32))) + (own_ge p1 (11264 : Int32))) + (own_ge p1 (12272 : Int32))) + (own_ge p1 (12289 : Int32))) + (own_ge p1 (55296 : Int32))) + (own_ge p1 (63744 : Int32))) + (own_ge p1 (64976 : Int32))) + (own_ge p1 (65008 : Int32))) + (own_ge p1 (65534 : Int32))) + (own_ge p1 (65536 : Int32))))])) (fun t k => Xp29.ldcInt hx hown (mvT hZ (hw _ (List.mem_of_getElem? (i := 7) rfl))) (g := (mkF m 220 #[.val (.int p1), .unset] [(.int p1), (.int (((((((((((((((((((((((((((((own_ge p1 (65 : Int32)) + (own_ge p1 (91 : Int32))) + (own_ge p1 (95 : Int32))) + (own_ge p1 (96 : Int32))) + (own_ge p1 (97 : Int32))) + (own_ge p1 (123 : Int32))) + (own_ge p1 (192 : Int32))) + (own_ge p1 (215 : Int32))) + (own_ge p1 (216 : Int32))) + (own_ge p1 (247 : Int32))) + (own_ge p1 (248 : Int32))) + (own_ge p1 (768 : Int32))) + (own_ge p1 (880 : Int32))) + (own_ge p1 (894 : Int32))) + (own_ge p1 (895 : Int32))) + (own_ge p1 (8192 : Int32))) + (own_ge p1 (8204 : Int32))) + (own_ge p1 (8206 : Int32))) + (own_ge p1 (8304 : Int32))) + (own_ge p1 (8592 : Int32))) + (own_ge p1 (11264 : Int32))) + (own_ge p1 (12272 : Int32))) + (own_ge p1 (12289 : Int32))) + (own_ge p1 (55296 : Int32))) + (own_ge p1 (63744 : Int32))) + (own_ge p1 (64976 : Int32))) + (own_ge p1 (65008 : Int32))) + (own_ge p1 (65534 : Int32))) + (own_ge p1 (65536 : Int32))))])) rfl (hb hby d2_220) _ k) ?_
  obtain ⟨_, _, ⟨T30, L30, k30, n30⟩, -, X30, ⟨Lc30, hQ30, l30, y30, z30⟩, st30⟩ := Jvm.LawKit.callS Xp29 hx (y := (⟨"com/example/sapwood/sapwood/query/LexerIsNameStartPinLaw", "ge", "(II)I"⟩ : MethodName)) hown (mvT hZ (hw _ (List.mem_of_getElem? (i := 19) rfl))) (mvT hZ (hw _ (List.mem_of_getElem? (i := 20) rfl))) (mvT hZ (hw _ (List.mem_of_getElem? (i := 17) rfl))) (mvT hZ (hw _ (List.mem_of_getElem? (i := 21) rfl))) (by decide) (backOf (W := 1) (rm1 l Z a0 hw [] p1 (983040 : Int32) h0 n0 Z0) hZ (hw _ (List.mem_of_getElem? (i := 21) rfl)) (hw _ (List.mem_of_getElem? (i := 17) rfl)) (by decide) (by decide)) (g := (mkF m 222 #[.val (.int p1), .unset] [(.int (983040 : Int32)), (.int p1), (.int (((((((((((((((((((((((((((((own_ge p1 (65 : Int32)) + (own_ge p1 (91 : Int32))) + (own_ge p1 (95 : Int32))) + (own_ge p1 (96 : Int32))) + (own_ge p1 (97 : Int32))) + (own_ge p1 (123 : Int32))) + (own_ge p1 (192 : Int32))) + (own_ge p1 (215 : Int32))) + (own_ge p1 (216 : Int32))) + (own_ge p1 (247 : Int32))) + (own_ge p1 (248 : Int32))) + (own_ge p1 (768 : Int32))) + (own_ge p1 (880 : Int32))) + (own_ge p1 (894 : Int32))) + (own_ge p1 (895 : Int32))) + (own_ge p1 (8192 : Int32))) + (own_ge p1 (8204 : Int32))) + (own_ge p1 (8206 : Int32))) + (own_ge p1 (8304 : Int32))) + (own_ge p1 (8592 : Int32))) + (own_ge p1 (11264 : Int32))) + (own_ge p1 (12272 : Int32))) + (own_ge p1 (12289 : Int32))) + (own_ge p1 (55296 : Int32))) + (own_ge p1 (63744 : Int32))) + (own_ge p1 (64976 : Int32))) + (own_ge p1 (65008 : Int32))) + (own_ge p1 (65534 : Int32))) + (own_ge p1 (65536 : Int32))))])) rfl (by rw [hml]; rfl) (argsL := [(.int p1), (.int (983040 : Int32))]) (rest := [(.int (((((((((((((((((((((((((((((own_ge p1 (65 : Int32)) + (own_ge p1 (91 : Int32))) + (own_ge p1 (95 : Int32))) + (own_ge p1 (96 : Int32))) + (own_ge p1 (97 : Int32))) + (own_ge p1 (123 : Int32))) + (own_ge p1 (192 : Int32))) + (own_ge p1 (215 : Int32))) + (own_ge p1 (216 : Int32))) + (own_ge p1 (247 : Int32))) + (own_ge p1 (248 : Int32))) + (own_ge p1 (768 : Int32))) + (own_ge p1 (880 : Int32))) + (own_ge p1 (894 : Int32))) + (own_ge p1 (895 : Int32))) + (own_ge p1 (8192 : Int32))) + (own_ge p1 (8204 : Int32))) + (own_ge p1 (8206 : Int32))) + (own_ge p1 (8304 : Int32))) + (own_ge p1 (8592 : Int32))) + (own_ge p1 (11264 : Int32))) + (own_ge p1 (12272 : Int32))) + (own_ge p1 (12289 : Int32))) + (own_ge p1 (55296 : Int32))) + (own_ge p1 (63744 : Int32))) + (own_ge p1 (64976 : Int32))) + (own_ge p1 (65008 : Int32))) + (own_ge p1 (65534 : Int32))) + (own_ge p1 (65536 : Int32))))]) (lenOf pd_1 rfl) rfl (by show 2 * 0 + _ ≤ _; exact Nat.le_of_eq rfl) (hb hby d2_222) (fun _ _ => ⟨rfl, e29, (by decide : 0 + 0 ≤ _), (by decide : 0 + 0 ≤ _)⟩)
  dsimp only [Pt.U, Pt.locs, Pt.cells, Pt.slots] at X30 l30 y30 z30 st30 hQ30
  subst l30 y30 z30
  obtain ⟨rfl, N30q, e30⟩ := hQ30
  have N30 := Fr.app Np29 N30q
  refine Goes.step (S' := T30.setTop (mkF m 225 #[.val (.int p1), .unset] [(.int (own_ge p1 (983040 : Int32))), (.int (((((((((((((((((((((((((((((own_ge p1 (65 : Int32)) + (own_ge p1 (91 : Int32))) + (own_ge p1 (95 : Int32))) + (own_ge p1 (96 : Int32))) + (own_ge p1 (97 : Int32))) + (own_ge p1 (123 : Int32))) + (own_ge p1 (192 : Int32))) + (own_ge p1 (215 : Int32))) + (own_ge p1 (216 : Int32))) + (own_ge p1 (247 : Int32))) + (own_ge p1 (248 : Int32))) + (own_ge p1 (768 : Int32))) + (own_ge p1 (880 : Int32))) + (own_ge p1 (894 : Int32))) + (own_ge p1 (895 : Int32))) + (own_ge p1 (8192 : Int32))) + (own_ge p1 (8204 : Int32))) + (own_ge p1 (8206 : Int32))) + (own_ge p1 (8304 : Int32))) + (own_ge p1 (8592 : Int32))) + (own_ge p1 (11264 : Int32))) + (own_ge p1 (12272 : Int32))) + (own_ge p1 (12289 : Int32))) + (own_ge p1 (55296 : Int32))) + (own_ge p1 (63744 : Int32))) + (own_ge p1 (64976 : Int32))) + (own_ge p1 (65008 : Int32))) + (own_ge p1 (65534 : Int32))) + (own_ge p1 (65536 : Int32))))])) (fun t k => st30 t k) ?_
  obtain ⟨Lp30, Xp30, Np30⟩ : ∃ L, Stand p l e ({ frames := 1, cells := 0, slots := 0, locals := 14 } : Room) s m #[(.int p1)] below meth c T30 L 0 0 ∧ Fr n0 L := ⟨_, X30, N30⟩
  clear X30 N30 N30q st30
  clear Xp29 Np29 e29
  clear Lp29 T29
  refine Goes.step (S' := T30.setTop (mkF m 226 #[.val (.int p1), .unset] [(.int ((((((((((((((((((((((((((((((own_ge p1 (65 : Int32)) + (own_ge p1 (91 : Int32))) + (own_ge p1 (95 : Int32))) + (own_ge p1 (96 : Int32))) + (own_ge p1 (97 : Int32))) + (own_ge p1 (123 : Int32))) + (own_ge p1 (192 : Int32))) + (own_ge p1 (215 : Int32))) + (own_ge p1 (216 : Int32))) + (own_ge p1 (247 : Int32))) + (own_ge p1 (248 : Int32))) + (own_ge p1 (768 : Int32))) + (own_ge p1 (880 : Int32))) + (own_ge p1 (894 : Int32))) + (own_ge p1 (895 : Int32))) + (own_ge p1 (8192 : Int32))) + (own_ge p1 (8204 : Int32))) + (own_ge p1 (8206 : Int32))) + (own_ge p1 (8304 : Int32))) + (own_ge p1 (8592 : Int32))) + (own_ge p1 (11264 : Int32))) + (own_ge p1 (12272 : Int32))) + (own_ge p1 (12289 : Int32))) + (own_ge p1 (55296 : Int32))) + (own_ge p1 (63744 : Int32))) + (own_ge p1 (64976 : Int32))) + (own_ge p1 (65008 : Int32))) + (own_ge p1 (65534 : Int32))) + (own_ge p1 (65536 : Int32))) + (own_ge p1 (983040 : Int32))))])) (fun t k => XS.iadd Xp30.here hx rfl (hb hby d2_225) rfl k) ?_
  refine Goes.step (S' := T30.setTop (mkF m 227 #[.val (.int p1), .val (.int ((((((((((((((((((((((((((((((own_ge p1 (65 : Int32)) + (own_ge p1 (91 : Int32))) + (own_ge p1 (95 : Int32))) + (own_ge p1 (96 : Int32))) + (own_ge p1 (97 : Int32))) + (own_ge p1 (123 : Int32))) + (own_ge p1 (192 : Int32))) + (own_ge p1 (215 : Int32))) + (own_ge p1 (216 : Int32))) + (own_ge p1 (247 : Int32))) + (own_ge p1 (248 : Int32))) + (own_ge p1 (768 : Int32))) + (own_ge p1 (880 : Int32))) + (own_ge p1 (894 : Int32))) + (own_ge p1 (895 : Int32))) + (own_ge p1 (8192 : Int32))) + (own_ge p1 (8204 : Int32))) + (own_ge p1 (8206 : Int32))) + (own_ge p1 (8304 : Int32))) + (own_ge p1 (8592 : Int32))) + (own_ge p1 (11264 : Int32))) + (own_ge p1 (12272 : Int32))) + (own_ge p1 (12289 : Int32))) + (own_ge p1 (55296 : Int32))) + (own_ge p1 (63744 : Int32))) + (own_ge p1 (64976 : Int32))) + (own_ge p1 (65008 : Int32))) + (own_ge p1 (65534 : Int32))) + (own_ge p1 (65536 : Int32))) + (own_ge p1 (983040 : Int32))))] [])) (fun t k => XS.istoreN Xp30.here hx rfl (hb hby d2_226) rfl (l' := #[.val (.int p1), .val (.int ((((((((((((((((((((((((((((((own_ge p1 (65 : Int32)) + (own_ge p1 (91 : Int32))) + (own_ge p1 (95 : Int32))) + (own_ge p1 (96 : Int32))) + (own_ge p1 (97 : Int32))) + (own_ge p1 (123 : Int32))) + (own_ge p1 (192 : Int32))) + (own_ge p1 (215 : Int32))) + (own_ge p1 (216 : Int32))) + (own_ge p1 (247 : Int32))) + (own_ge p1 (248 : Int32))) + (own_ge p1 (768 : Int32))) + (own_ge p1 (880 : Int32))) + (own_ge p1 (894 : Int32))) + (own_ge p1 (895 : Int32))) + (own_ge p1 (8192 : Int32))) + (own_ge p1 (8204 : Int32))) + (own_ge p1 (8206 : Int32))) + (own_ge p1 (8304 : Int32))) + (own_ge p1 (8592 : Int32))) + (own_ge p1 (11264 : Int32))) + (own_ge p1 (12272 : Int32))) + (own_ge p1 (12289 : Int32))) + (own_ge p1 (55296 : Int32))) + (own_ge p1 (63744 : Int32))) + (own_ge p1 (64976 : Int32))) + (own_ge p1 (65008 : Int32))) + (own_ge p1 (65534 : Int32))) + (own_ge p1 (65536 : Int32))) + (own_ge p1 (983040 : Int32))))]) rfl k) ?_
  refine Goes.step (S' := T30.setTop (mkF m 228 #[.val (.int p1), .val (.int ((((((((((((((((((((((((((((((own_ge p1 (65 : Int32)) + (own_ge p1 (91 : Int32))) + (own_ge p1 (95 : Int32))) + (own_ge p1 (96 : Int32))) + (own_ge p1 (97 : Int32))) + (own_ge p1 (123 : Int32))) + (own_ge p1 (192 : Int32))) + (own_ge p1 (215 : Int32))) + (own_ge p1 (216 : Int32))) + (own_ge p1 (247 : Int32))) + (own_ge p1 (248 : Int32))) + (own_ge p1 (768 : Int32))) + (own_ge p1 (880 : Int32))) + (own_ge p1 (894 : Int32))) + (own_ge p1 (895 : Int32))) + (own_ge p1 (8192 : Int32))) + (own_ge p1 (8204 : Int32))) + (own_ge p1 (8206 : Int32))) + (own_ge p1 (8304 : Int32))) + (own_ge p1 (8592 : Int32))) + (own_ge p1 (11264 : Int32))) + (own_ge p1 (12272 : Int32))) + (own_ge p1 (12289 : Int32))) + (own_ge p1 (55296 : Int32))) + (own_ge p1 (63744 : Int32))) + (own_ge p1 (64976 : Int32))) + (own_ge p1 (65008 : Int32))) + (own_ge p1 (65534 : Int32))) + (own_ge p1 (65536 : Int32))) + (own_ge p1 (983040 : Int32))))] [(.int ((((((((((((((((((((((((((((((own_ge p1 (65 : Int32)) + (own_ge p1 (91 : Int32))) + (own_ge p1 (95 : Int32))) + (own_ge p1 (96 : Int32))) + (own_ge p1 (97 : Int32))) + (own_ge p1 (123 : Int32))) + (own_ge p1 (192 : Int32))) + (own_ge p1 (215 : Int32))) + (own_ge p1 (216 : Int32))) + (own_ge p1 (247 : Int32))) + (own_ge p1 (248 : Int32))) + (own_ge p1 (768 : Int32))) + (own_ge p1 (880 : Int32))) + (own_ge p1 (894 : Int32))) + (own_ge p1 (895 : Int32))) + (own_ge p1 (8192 : Int32))) + (own_ge p1 (8204 : Int32))) + (own_ge p1 (8206 : Int32))) + (own_ge p1 (8304 : Int32))) + (own_ge p1 (8592 : Int32))) + (own_ge p1 (11264 : Int32))) + (own_ge p1 (12272 : Int32))) + (own_ge p1 (12289 : Int32))) + (own_ge p1 (55296 : Int32))) + (own_ge p1 (63744 : Int32))) + (own_ge p1 (64976 : Int32))) + (own_ge p1 (65008 : Int32))) + (own_ge p1 (65534 : Int32))) + (own_ge p1 (65536 : Int32))) + (own_ge p1 (983040 : Int32))))])) (fun t k => XS.iloadN Xp30.here hx rfl (hb hby d2_227) rfl k) ?_
  refine Goes.step (S' := T30.setTop (mkF m 229 #[.val (.int p1), .val (.int ((((((((((((((((((((((((((((((own_ge p1 (65 : Int32)) + (own_ge p1 (91 : Int32))) + (own_ge p1 (95 : Int32))) + (own_ge p1 (96 : Int32))) + (own_ge p1 (97 : Int32))) + (own_ge p1 (123 : Int32))) + (own_ge p1 (192 : Int32))) + (own_ge p1 (215 : Int32))) + (own_ge p1 (216 : Int32))) + (own_ge p1 (247 : Int32))) + (own_ge p1 (248 : Int32))) + (own_ge p1 (768 : Int32))) + (own_ge p1 (880 : Int32))) + (own_ge p1 (894 : Int32))) + (own_ge p1 (895 : Int32))) + (own_ge p1 (8192 : Int32))) + (own_ge p1 (8204 : Int32))) + (own_ge p1 (8206 : Int32))) + (own_ge p1 (8304 : Int32))) + (own_ge p1 (8592 : Int32))) + (own_ge p1 (11264 : Int32))) + (own_ge p1 (12272 : Int32))) + (own_ge p1 (12289 : Int32))) + (own_ge p1 (55296 : Int32))) + (own_ge p1 (63744 : Int32))) + (own_ge p1 (64976 : Int32))) + (own_ge p1 (65008 : Int32))) + (own_ge p1 (65534 : Int32))) + (own_ge p1 (65536 : Int32))) + (own_ge p1 (983040 : Int32))))] [(.int (1 : Int32)), (.int ((((((((((((((((((((((((((((((own_ge p1 (65 : Int32)) + (own_ge p1 (91 : Int32))) + (own_ge p1 (95 : Int32))) + (own_ge p1 (96 : Int32))) + (own_ge p1 (97 : Int32))) + (own_ge p1 (123 : Int32))) + (own_ge p1 (192 : Int32))) + (own_ge p1 (215 : Int32))) + (own_ge p1 (216 : Int32))) + (own_ge p1 (247 : Int32))) + (own_ge p1 (248 : Int32))) + (own_ge p1 (768 : Int32))) + (own_ge p1 (880 : Int32))) + (own_ge p1 (894 : Int32))) + (own_ge p1 (895 : Int32))) + (own_ge p1 (8192 : Int32))) + (own_ge p1 (8204 : Int32))) + (own_ge p1 (8206 : Int32))) + (own_ge p1 (8304 : Int32))) + (own_ge p1 (8592 : Int32))) + (own_ge p1 (11264 : Int32))) + (own_ge p1 (12272 : Int32))) + (own_ge p1 (12289 : Int32))) + (own_ge p1 (55296 : Int32))) + (own_ge p1 (63744 : Int32))) + (own_ge p1 (64976 : Int32))) + (own_ge p1 (65008 : Int32))) + (own_ge p1 (65534 : Int32))) + (own_ge p1 (65536 : Int32))) + (own_ge p1 (983040 : Int32))))])) (fun t k => XS.iconst Xp30.here hx rfl (hb hby d2_228) k) ?_
  refine Goes.step (S' := T30.setTop (mkF m 230 #[.val (.int p1), .val (.int ((((((((((((((((((((((((((((((own_ge p1 (65 : Int32)) + (own_ge p1 (91 : Int32))) + (own_ge p1 (95 : Int32))) + (own_ge p1 (96 : Int32))) + (own_ge p1 (97 : Int32))) + (own_ge p1 (123 : Int32))) + (own_ge p1 (192 : Int32))) + (own_ge p1 (215 : Int32))) + (own_ge p1 (216 : Int32))) + (own_ge p1 (247 : Int32))) + (own_ge p1 (248 : Int32))) + (own_ge p1 (768 : Int32))) + (own_ge p1 (880 : Int32))) + (own_ge p1 (894 : Int32))) + (own_ge p1 (895 : Int32))) + (own_ge p1 (8192 : Int32))) + (own_ge p1 (8204 : Int32))) + (own_ge p1 (8206 : Int32))) + (own_ge p1 (8304 : Int32))) + (own_ge p1 (8592 : Int32))) + (own_ge p1 (11264 : Int32))) + (own_ge p1 (12272 : Int32))) + (own_ge p1 (12289 : Int32))) + (own_ge p1 (55296 : Int32))) + (own_ge p1 (63744 : Int32))) + (own_ge p1 (64976 : Int32))) + (own_ge p1 (65008 : Int32))) + (own_ge p1 (65534 : Int32))) + (own_ge p1 (65536 : Int32))) + (own_ge p1 (983040 : Int32))))] [(.int (((((((((((((((((((((((((((((((own_ge p1 (65 : Int32)) + (own_ge p1 (91 : Int32))) + (own_ge p1 (95 : Int32))) + (own_ge p1 (96 : Int32))) + (own_ge p1 (97 : Int32))) + (own_ge p1 (123 : Int32))) + (own_ge p1 (192 : Int32))) + (own_ge p1 (215 : Int32))) + (own_ge p1 (216 : Int32))) + (own_ge p1 (247 : Int32))) + (own_ge p1 (248 : Int32))) + (own_ge p1 (768 : Int32))) + (own_ge p1 (880 : Int32))) + (own_ge p1 (894 : Int32))) + (own_ge p1 (895 : Int32))) + (own_ge p1 (8192 : Int32))) + (own_ge p1 (8204 : Int32))) + (own_ge p1 (8206 : Int32))) + (own_ge p1 (8304 : Int32))) + (own_ge p1 (8592 : Int32))) + (own_ge p1 (11264 : Int32))) + (own_ge p1 (12272 : Int32))) + (own_ge p1 (12289 : Int32))) + (own_ge p1 (55296 : Int32))) + (own_ge p1 (63744 : Int32))) + (own_ge p1 (64976 : Int32))) + (own_ge p1 (65008 : Int32))) + (own_ge p1 (65534 : Int32))) + (own_ge p1 (65536 : Int32))) + (own_ge p1 (983040 : Int32))) &&& (1 : Int32)))])) (fun t k => XS.iand Xp30.here hx rfl (hb hby d2_229) rfl k) ?_
  refine Goes.step (S' := T30.setTop (mkF m 231 #[.val (.int p1), .val (.int ((((((((((((((((((((((((((((((own_ge p1 (65 : Int32)) + (own_ge p1 (91 : Int32))) + (own_ge p1 (95 : Int32))) + (own_ge p1 (96 : Int32))) + (own_ge p1 (97 : Int32))) + (own_ge p1 (123 : Int32))) + (own_ge p1 (192 : Int32))) + (own_ge p1 (215 : Int32))) + (own_ge p1 (216 : Int32))) + (own_ge p1 (247 : Int32))) + (own_ge p1 (248 : Int32))) + (own_ge p1 (768 : Int32))) + (own_ge p1 (880 : Int32))) + (own_ge p1 (894 : Int32))) + (own_ge p1 (895 : Int32))) + (own_ge p1 (8192 : Int32))) + (own_ge p1 (8204 : Int32))) + (own_ge p1 (8206 : Int32))) + (own_ge p1 (8304 : Int32))) + (own_ge p1 (8592 : Int32))) + (own_ge p1 (11264 : Int32))) + (own_ge p1 (12272 : Int32))) + (own_ge p1 (12289 : Int32))) + (own_ge p1 (55296 : Int32))) + (own_ge p1 (63744 : Int32))) + (own_ge p1 (64976 : Int32))) + (own_ge p1 (65008 : Int32))) + (own_ge p1 (65534 : Int32))) + (own_ge p1 (65536 : Int32))) + (own_ge p1 (983040 : Int32))))] [(.int (1 : Int32)), (.int (((((((((((((((((((((((((((((((own_ge p1 (65 : Int32)) + (own_ge p1 (91 : Int32))) + (own_ge p1 (95 : Int32))) + (own_ge p1 (96 : Int32))) + (own_ge p1 (97 : Int32))) + (own_ge p1 (123 : Int32))) + (own_ge p1 (192 : Int32))) + (own_ge p1 (215 : Int32))) + (own_ge p1 (216 : Int32))) + (own_ge p1 (247 : Int32))) + (own_ge p1 (248 : Int32))) + (own_ge p1 (768 : Int32))) + (own_ge p1 (880 : Int32))) + (own_ge p1 (894 : Int32))) + (own_ge p1 (895 : Int32))) + (own_ge p1 (8192 : Int32))) + (own_ge p1 (8204 : Int32))) + (own_ge p1 (8206 : Int32))) + (own_ge p1 (8304 : Int32))) + (own_ge p1 (8592 : Int32))) + (own_ge p1 (11264 : Int32))) + (own_ge p1 (12272 : Int32))) + (own_ge p1 (12289 : Int32))) + (own_ge p1 (55296 : Int32))) + (own_ge p1 (63744 : Int32))) + (own_ge p1 (64976 : Int32))) + (own_ge p1 (65008 : Int32))) + (own_ge p1 (65534 : Int32))) + (own_ge p1 (65536 : Int32))) + (own_ge p1 (983040 : Int32))) &&& (1 : Int32)))])) (fun t k => XS.iconst Xp30.here hx rfl (hb hby d2_230) k) ?_
  show Goes p e below (R2 Z p1 h0 n0 s) (T30.setTop (mkF m 231 #[.val (.int p1), .val (.int (own_sum p1))] [(.int (1 : Int32)), (.int (own_sum p1 &&& (1 : Int32)))]))
  by_cases c1 : (own_sum p1 &&& (1 : Int32)) = (1 : Int32)
  · refine Goes.step (S' := T30.setTop (mkF m 234 #[.val (.int p1), .val (.int (own_sum p1))] [])) (fun t k => XS.icmpNo Xp30.here hx rfl (hb hby d2_231) rfl (teq c1).2 k) ?_
    refine Goes.step (S' := T30.setTop (mkF m 235 #[.val (.int p1), .val (.int (own_sum p1))] [(.int (1 : Int32))])) (fun t k => XS.iconst Xp30.here hx rfl (hb hby d2_234) k) ?_
    refine Goes.step (S' := T30.setTop (mkF m 239 #[.val (.int p1), .val (.int (own_sum p1))] [(.int (1 : Int32))])) (fun t k => XS.goto Xp30.here hx rfl (pc0 := 235) (pc' := 239) rfl (hb hby d2_235) (by decide) (by decide) k) ?_
    obtain ⟨fs, hr, hrun, hended, hW, hsame⟩ := Xp30.leave (v := some (.int (1 : Int32))) (fun h => by rw [Bd.returns] at h; cases h)
    exact ⟨_, _, retN Xp30 hx (t := .boolean) Bd.returns (by simp) (hb hby d2_239) hr, hrun, hended, _, _, rfl, ⟨by rw [own_in1 c1], Np30, e30⟩, ⟨_, rfl⟩, hW, hsame.mono (by decide) (by decide)⟩
  · refine Goes.step (S' := T30.setTop (mkF m 238 #[.val (.int p1), .val (.int (own_sum p1))] [])) (fun t k => XS.icmpYes Xp30.here hx rfl (pc0 := 231) (pc' := 238) rfl (hb hby d2_231) rfl (feq c1).2 (by decide) (by decide) k) ?_
    refine Goes.step (S' := T30.setTop (mkF m 239 #[.val (.int p1), .val (.int (own_sum p1))] [(.int (0 : Int32))])) (fun t k => XS.iconst Xp30.here hx rfl (hb hby d2_238) k) ?_
    obtain ⟨fs, hr, hrun, hended, hW, hsame⟩ := Xp30.leave (v := some (.int (0 : Int32))) (fun h => by rw [Bd.returns] at h; cases h)
    exact ⟨_, _, retN Xp30 hx (t := .boolean) Bd.returns (by simp) (hb hby d2_239) hr, hrun, hended, _, _, rfl, ⟨by rw [own_in0 c1], Np30, e30⟩, ⟨_, rfl⟩, hW, hsame.mono (by decide) (by decide)⟩
theorem d3_0 : decode prog_122_method_18_code 0 = .ok (.iload_n 0, 1) := by decide +kernel
theorem d3_1 : decode prog_122_method_18_code 1 = .ok (.bipush 97, 2) := by decide +kernel
theorem d3_3 : decode prog_122_method_18_code 3 = .ok (.if_icmp .lt 9, 3) := by decide +kernel
theorem d3_6 : decode prog_122_method_18_code 6 = .ok (.iload_n 0, 1) := by decide +kernel
theorem d3_7 : decode prog_122_method_18_code 7 = .ok (.bipush 122, 2) := by decide +kernel
theorem d3_9 : decode prog_122_method_18_code 9 = .ok (.if_icmp .le 182, 3) := by decide +kernel
theorem d3_12 : decode prog_122_method_18_code 12 = .ok (.iload_n 0, 1) := by decide +kernel
theorem d3_13 : decode prog_122_method_18_code 13 = .ok (.bipush 65, 2) := by decide +kernel
theorem d3_15 : decode prog_122_method_18_code 15 = .ok (.if_icmp .lt 9, 3) := by decide +kernel
theorem d3_18 : decode prog_122_method_18_code 18 = .ok (.iload_n 0, 1) := by decide +kernel
theorem d3_19 : decode prog_122_method_18_code 19 = .ok (.bipush 90, 2) := by decide +kernel
theorem d3_21 : decode prog_122_method_18_code 21 = .ok (.if_icmp .le 170, 3) := by decide +kernel
theorem d3_24 : decode prog_122_method_18_code 24 = .ok (.iload_n 0, 1) := by decide +kernel
theorem d3_25 : decode prog_122_method_18_code 25 = .ok (.bipush 95, 2) := by decide +kernel
theorem d3_27 : decode prog_122_method_18_code 27 = .ok (.if_icmp .eq 164, 3) := by decide +kernel
theorem d3_30 : decode prog_122_method_18_code 30 = .ok (.iload_n 0, 1) := by decide +kernel
theorem d3_31 : decode prog_122_method_18_code 31 = .ok (.sipush 192, 3) := by decide +kernel
theorem d3_34 : decode prog_122_method_18_code 34 = .ok (.if_icmp .lt 10, 3) := by decide +kernel
theorem d3_37 : decode prog_122_method_18_code 37 = .ok (.iload_n 0, 1) := by decide +kernel
theorem d3_38 : decode prog_122_method_18_code 38 = .ok (.sipush 214, 3) := by decide +kernel
theorem d3_41 : decode prog_122_method_18_code 41 = .ok (.if_icmp .le 150, 3) := by decide +kernel
theorem d3_44 : decode prog_122_method_18_code 44 = .ok (.iload_n 0, 1) := by decide +kernel
theorem d3_45 : decode prog_122_method_18_code 45 = .ok (.sipush 216, 3) := by decide +kernel
theorem d3_48 : decode prog_122_method_18_code 48 = .ok (.if_icmp .lt 10, 3) := by decide +kernel
theorem d3_51 : decode prog_122_method_18_code 51 = .ok (.iload_n 0, 1) := by decide +kernel
theorem d3_52 : decode prog_122_method_18_code 52 = .ok (.sipush 246, 3) := by decide +kernel
theorem d3_55 : decode prog_122_method_18_code 55 = .ok (.if_icmp .le 136, 3) := by decide +kernel
theorem d3_58 : decode prog_122_method_18_code 58 = .ok (.iload_n 0, 1) := by decide +kernel
theorem d3_59 : decode prog_122_method_18_code 59 = .ok (.sipush 248, 3) := by decide +kernel
theorem d3_62 : decode prog_122_method_18_code 62 = .ok (.if_icmp .lt 10, 3) := by decide +kernel
theorem d3_65 : decode prog_122_method_18_code 65 = .ok (.iload_n 0, 1) := by decide +kernel
theorem d3_66 : decode prog_122_method_18_code 66 = .ok (.sipush 767, 3) := by decide +kernel
theorem d3_69 : decode prog_122_method_18_code 69 = .ok (.if_icmp .le 122, 3) := by decide +kernel
theorem d3_72 : decode prog_122_method_18_code 72 = .ok (.iload_n 0, 1) := by decide +kernel
theorem d3_73 : decode prog_122_method_18_code 73 = .ok (.sipush 880, 3) := by decide +kernel
theorem d3_76 : decode prog_122_method_18_code 76 = .ok (.if_icmp .lt 10, 3) := by decide +kernel
theorem d3_79 : decode prog_122_method_18_code 79 = .ok (.iload_n 0, 1) := by decide +kernel
theorem d3_80 : decode prog_122_method_18_code 80 = .ok (.sipush 893, 3) := by decide +kernel
theorem d3_83 : decode prog_122_method_18_code 83 = .ok (.if_icmp .le 108, 3) := by decide +kernel
theorem d3_86 : decode prog_122_method_18_code 86 = .ok (.iload_n 0, 1) := by decide +kernel
theorem d3_87 : decode prog_122_method_18_code 87 = .ok (.sipush 895, 3) := by decide +kernel
theorem d3_90 : decode prog_122_method_18_code 90 = .ok (.if_icmp .lt 10, 3) := by decide +kernel
theorem d3_93 : decode prog_122_method_18_code 93 = .ok (.iload_n 0, 1) := by decide +kernel
theorem d3_94 : decode prog_122_method_18_code 94 = .ok (.sipush 8191, 3) := by decide +kernel
theorem d3_97 : decode prog_122_method_18_code 97 = .ok (.if_icmp .le 94, 3) := by decide +kernel
theorem d3_100 : decode prog_122_method_18_code 100 = .ok (.iload_n 0, 1) := by decide +kernel
theorem d3_101 : decode prog_122_method_18_code 101 = .ok (.sipush 8204, 3) := by decide +kernel
theorem d3_104 : decode prog_122_method_18_code 104 = .ok (.if_icmp .lt 10, 3) := by decide +kernel
theorem d3_107 : decode prog_122_method_18_code 107 = .ok (.iload_n 0, 1) := by decide +kernel
theorem d3_108 : decode prog_122_method_18_code 108 = .ok (.sipush 8205, 3) := by decide +kernel
theorem d3_111 : decode prog_122_method_18_code 111 = .ok (.if_icmp .le 80, 3) := by decide +kernel
theorem d3_114 : decode prog_122_method_18_code 114 = .ok (.iload_n 0, 1) := by decide +kernel
theorem d3_115 : decode prog_122_method_18_code 115 = .ok (.sipush 8304, 3) := by decide +kernel
theorem d3_118 : decode prog_122_method_18_code 118 = .ok (.if_icmp .lt 10, 3) := by decide +kernel
theorem d3_121 : decode prog_122_method_18_code 121 = .ok (.iload_n 0, 1) := by decide +kernel
theorem d3_122 : decode prog_122_method_18_code 122 = .ok (.sipush 8591, 3) := by decide +kernel
theorem d3_125 : decode prog_122_method_18_code 125 = .ok (.if_icmp .le 66, 3) := by decide +kernel
theorem d3_128 : decode prog_122_method_18_code 128 = .ok (.iload_n 0, 1) := by decide +kernel
theorem d3_129 : decode prog_122_method_18_code 129 = .ok (.sipush 11264, 3) := by decide +kernel
theorem d3_132 : decode prog_122_method_18_code 132 = .ok (.if_icmp .lt 10, 3) := by decide +kernel
theorem d3_135 : decode prog_122_method_18_code 135 = .ok (.iload_n 0, 1) := by decide +kernel
theorem d3_136 : decode prog_122_method_18_code 136 = .ok (.sipush 12271, 3) := by decide +kernel
theorem d3_139 : decode prog_122_method_18_code 139 = .ok (.if_icmp .le 52, 3) := by decide +kernel
theorem d3_142 : decode prog_122_method_18_code 142 = .ok (.iload_n 0, 1) := by decide +kernel
theorem d3_143 : decode prog_122_method_18_code 143 = .ok (.sipush 12289, 3) := by decide +kernel
theorem d3_146 : decode prog_122_method_18_code 146 = .ok (.if_icmp .lt 9, 3) := by decide +kernel
theorem d3_149 : decode prog_122_method_18_code 149 = .ok (.iload_n 0, 1) := by decide +kernel
theorem d3_150 : decode prog_122_method_18_code 150 = .ok (.ldc 239, 2) := by decide +kernel
theorem d3_152 : decode prog_122_method_18_code 152 = .ok (.if_icmp .le 39, 3) := by decide +kernel
theorem d3_155 : decode prog_122_method_18_code 155 = .ok (.iload_n 0, 1) := by decide +kernel
theorem d3_156 : decode prog_122_method_18_code 156 = .ok (.ldc 240, 2) := by decide +kernel
theorem d3_158 : decode prog_122_method_18_code 158 = .ok (.if_icmp .lt 9, 3) := by decide +kernel
theorem d3_161 : decode prog_122_method_18_code 161 = .ok (.iload_n 0, 1) := by decide +kernel
theorem d3_162 : decode prog_122_method_18_code 162 = .ok (.ldc 241, 2) := by decide +kernel
theorem d3_164 : decode prog_122_method_18_code 164 = .ok (.if_icmp .le 27, 3) := by decide +kernel
theorem d3_167 : decode prog_122_method_18_code 167 = .ok (.iload_n 0, 1) := by decide +kernel
theorem d3_168 : decode prog_122_method_18_code 168 = .ok (.ldc 242, 2) := by decide +kernel
theorem d3_170 : decode prog_122_method_18_code 170 = .ok (.if_icmp .lt 9, 3) := by decide +kernel
theorem d3_173 : decode prog_122_method_18_code 173 = .ok (.iload_n 0, 1) := by decide +kernel
theorem d3_174 : decode prog_122_method_18_code 174 = .ok (.ldc 243, 2) := by decide +kernel
theorem d3_176 : decode prog_122_method_18_code 176 = .ok (.if_icmp .le 15, 3) := by decide +kernel
theorem d3_179 : decode prog_122_method_18_code 179 = .ok (.iload_n 0, 1) := by decide +kernel
theorem d3_180 : decode prog_122_method_18_code 180 = .ok (.ldc 244, 2) := by decide +kernel
theorem d3_182 : decode prog_122_method_18_code 182 = .ok (.if_icmp .lt 13, 3) := by decide +kernel
theorem d3_185 : decode prog_122_method_18_code 185 = .ok (.iload_n 0, 1) := by decide +kernel
theorem d3_186 : decode prog_122_method_18_code 186 = .ok (.ldc 245, 2) := by decide +kernel
theorem d3_188 : decode prog_122_method_18_code 188 = .ok (.if_icmp .gt 7, 3) := by decide +kernel
theorem d3_191 : decode prog_122_method_18_code 191 = .ok (.iconst 1, 1) := by decide +kernel
theorem d3_192 : decode prog_122_method_18_code 192 = .ok (.goto 4, 3) := by decide +kernel
theorem d3_195 : decode prog_122_method_18_code 195 = .ok (.iconst 0, 1) := by decide +kernel
theorem d3_196 : decode prog_122_method_18_code 196 = .ok (.ireturn, 1) := by decide +kernel
theorem pn_3 : plainName "com/example/sapwood/sapwood/query/Lexer" = true := by first | (simp [plainName, overriddenIn]; done) | decide +kernel
theorem pd_3 : parseMethodDescriptor "(I)Z" = some ⟨[.int], some .boolean⟩ := by decide +kernel
theorem ef_3 (m : MethodId) (y0 : Int32) : entryFrame m #[(.int y0)] 1 = mkF m 0 #[.val (.int y0)] [] := by first | (simp [entryFrame, mkF, argsToLocals, Value.category]; done) | rfl
def Q3 (Z : State) (p1 : Int32) (h0 : Heap) (n0 : Nat) (v : Option Value) (h : Heap) (L : List Loc) : Prop := v = some (.int (own_n0 p1)) ∧ Fr n0 L ∧ h = h0
def R3 (Z : State) (p1 : Int32) (h0 : Heap) (n0 : Nat) (U : State) (U' : State) (o : Outcome) : Prop := ∃ v L, o = .returned v ∧ Q3 Z p1 h0 n0 v U'.heap L ∧ FrameEnd U o U' L ({ frames := 0, cells := 0, slots := 0, locals := 0 } : Room).cells ({ frames := 0, cells := 0, slots := 0, locals := 0 } : Room).slots
set_option maxRecDepth 65536 in
set_option maxHeartbeats 40000000 in
theorem rm3 (l : Launch) (Z : State) (a0 : Array Value) (hw : ∀ d ∈ tables_1, d.before a0 Z = true) (ws : List Jvm.Cond) (p1 : Int32) (h0 : Heap) (n0 : Nat) (Z0 : n0 ≤ h0.size)  :
    MetFree l (⟨"com/example/sapwood/sapwood/query/Lexer", "isNameStart", "(I)Z"⟩ : MethodName) (head1 (Jvm.Cond.code (⟨"com/example/sapwood/sapwood/query/Lexer", "isNameStart", "(I)Z"⟩ : MethodName) prog_122_method_18_code 1 (some .boolean) :: ws) ({ frames := 0, cells := 0, slots := 0, locals := 0 } : Room)) (fun a U => a = #[(.int p1)] ∧ Z.Warmed39 U.vm ∧ U.heap = h0) (fun _ _ _ _ _ => True) (fun _ U o U' => ∃ v L, o = .returned v ∧ Q3 Z p1 h0 n0 v U'.heap L ∧ FrameEnd U o U' L ({ frames := 0, cells := 0, slots := 0, locals := 0 } : Room).cells ({ frames := 0, cells := 0, slots := 0, locals := 0 } : Room).slots) := by
  refine MetFree.of_bodySF (plainFor_of_name pn_3) hisR ?_
  intro p e s m args below meth c s₁ Bd hml0 hP hK
  obtain ⟨rfl, hZ, hh⟩ := hP
  have hx := Bd.exec
  have hby := Bd.bytes
  have hml : c.maxLocals = 1 := hml0
  have hown : s.vm.findClass "com/example/sapwood/sapwood/query/Lexer" = some m.cls := findClass_of_methodNamed Bd.named
  have hnm := (name_of_methodNamed Bd.named Bd.method).1
  have X0 : Stand p l e ({ frames := 0, cells := 0, slots := 0, locals := 0 } : Room) s m #[(.int p1)] below meth c s₁ [] 0 0 := Stand.of_body Bd
  have e0 : s₁.heap = h0 := by rw [← hh, Bd.state]; rfl
  have N0 := Fr.nil n0
  show Goes p e below (R3 Z p1 h0 n0 s) (s₁.setTop (entryFrame m #[(.int p1)] 1))
  refine Goes.step (S' := s₁.setTop (mkF m 0 #[.val (.int p1)] [])) (fun t k => castTop (ef_3 m p1) k) ?_
  have K191 : ∀ (hq : own_n0 p1 = 1), Goes p e below (R3 Z p1 h0 n0 s) (s₁.setTop (mkF m 191 #[.val (.int p1)] [])) := by
    intro hq
    refine Goes.step (S' := s₁.setTop (mkF m 192 #[.val (.int p1)] [(.int (1 : Int32))])) (fun t k => XS.iconst X0.here hx rfl (hb hby d3_191) k) ?_
    refine Goes.step (S' := s₁.setTop (mkF m 196 #[.val (.int p1)] [(.int (1 : Int32))])) (fun t k => XS.goto X0.here hx rfl (pc0 := 192) (pc' := 196) rfl (hb hby d3_192) (by decide) (by decide) k) ?_
    obtain ⟨fs, hr, hrun, hended, hW, hsame⟩ := X0.leave (v := some (.int (1 : Int32))) (fun h => by rw [Bd.returns] at h; cases h)
    exact ⟨_, _, retN X0 hx (t := .boolean) Bd.returns (by simp) (hb hby d3_196) hr, hrun, hended, _, _, rfl, ⟨by rw [hq], N0, e0⟩, ⟨_, rfl⟩, hW, hsame.mono (by decide) (by decide)⟩
  have K195 : ∀ (hq : own_n0 p1 = 0), Goes p e below (R3 Z p1 h0 n0 s) (s₁.setTop (mkF m 195 #[.val (.int p1)] [])) := by
    intro hq
    refine Goes.step (S' := s₁.setTop (mkF m 196 #[.val (.int p1)] [(.int (0 : Int32))])) (fun t k => XS.iconst X0.here hx rfl (hb hby d3_195) k) ?_
    obtain ⟨fs, hr, hrun, hended, hW, hsame⟩ := X0.leave (v := some (.int (0 : Int32))) (fun h => by rw [Bd.returns] at h; cases h)
    exact ⟨_, _, retN X0 hx (t := .boolean) Bd.returns (by simp) (hb hby d3_196) hr, hrun, hended, _, _, rfl, ⟨by rw [hq], N0, e0⟩, ⟨_, rfl⟩, hW, hsame.mono (by decide) (by decide)⟩
  have K179 : ∀ (hq : own_n0 p1 = own_n14 p1), Goes p e below (R3 Z p1 h0 n0 s) (s₁.setTop (mkF m 179 #[.val (.int p1)] [])) := by
    intro hq
    refine Goes.step (S' := s₁.setTop (mkF m 180 #[.val (.int p1)] [(.int p1)])) (fun t k => XS.iloadN X0.here hx rfl (hb hby d3_179) rfl k) ?_
    refine Goes.step (S' := s₁.setTop (mkF m 182 #[.val (.int p1)] [(.int (65536 : Int32)), (.int p1)])) (fun t k => X0.ldcInt hx hown (mvT hZ (hw _ (List.mem_of_getElem? (i := 14) rfl))) (g := (mkF m 180 #[.val (.int p1)] [(.int p1)])) rfl (hb hby d3_180) _ k) ?_
    by_cases c1 : p1 < (65536 : Int32)
    · refine Goes.step (S' := s₁.setTop (mkF m 195 #[.val (.int p1)] [])) (fun t k => XS.icmpYes X0.here hx rfl (pc0 := 182) (pc' := 195) rfl (hb hby d3_182) rfl (tlt c1).1 (by decide) (by decide) k) ?_
      exact K195 (hq.trans (own_n14_l c1))
    · refine Goes.step (S' := s₁.setTop (mkF m 185 #[.val (.int p1)] [])) (fun t k => XS.icmpNo X0.here hx rfl (hb hby d3_182) rfl (flt c1).1 k) ?_
      refine Goes.step (S' := s₁.setTop (mkF m 186 #[.val (.int p1)] [(.int p1)])) (fun t k => XS.iloadN X0.here hx rfl (hb hby d3_185) rfl k) ?_
      refine Goes.step (S' := s₁.setTop (mkF m 188 #[.val (.int p1)] [(.int (983039 : Int32)), (.int p1)])) (fun t k => X0.ldcInt hx hown (mvT hZ (hw _ (List.mem_of_getElem? (i := 25) rfl))) (g := (mkF m 186 #[.val (.int p1)] [(.int p1)])) rfl (hb hby d3_186) _ k) ?_
      by_cases c2 : (983039 : Int32) < p1
      · refine Goes.step (S' := s₁.setTop (mkF m 195 #[.val (.int p1)] [])) (fun t k => XS.icmpYes X0.here hx rfl (pc0 := 188) (pc' := 195) rfl (hb hby d3_188) rfl (tlt c2).2.2.1 (by decide) (by decide) k) ?_
        exact K195 (hq.trans (own_n14_g c1 c2))
      · refine Goes.step (S' := s₁.setTop (mkF m 191 #[.val (.int p1)] [])) (fun t k => XS.icmpNo X0.here hx rfl (hb hby d3_188) rfl (flt c2).2.2.1 k) ?_
        exact K191 (hq.trans (own_n14_y c1 c2))
  have K167 : ∀ (hq : own_n0 p1 = own_n13 p1), Goes p e below (R3 Z p1 h0 n0 s) (s₁.setTop (mkF m 167 #[.val (.int p1)] [])) := by
    intro hq
    refine Goes.step (S' := s₁.setTop (mkF m 168 #[.val (.int p1)] [(.int p1)])) (fun t k => XS.iloadN X0.here hx rfl (hb hby d3_167) rfl k) ?_
    refine Goes.step (S' := s₁.setTop (mkF m 170 #[.val (.int p1)] [(.int (65008 : Int32)), (.int p1)])) (fun t k => X0.ldcInt hx hown (mvT hZ (hw _ (List.mem_of_getElem? (i := 13) rfl))) (g := (mkF m 168 #[.val (.int p1)] [(.int p1)])) rfl (hb hby d3_168) _ k) ?_
    by_cases c1 : p1 < (65008 : Int32)
    · refine Goes.step (S' := s₁.setTop (mkF m 179 #[.val (.int p1)] [])) (fun t k => XS.icmpYes X0.here hx rfl (pc0 := 170) (pc' := 179) rfl (hb hby d3_170) rfl (tlt c1).1 (by decide) (by decide) k) ?_
      exact K179 (hq.trans (own_n13_l c1))
    · refine Goes.step (S' := s₁.setTop (mkF m 173 #[.val (.int p1)] [])) (fun t k => XS.icmpNo X0.here hx rfl (hb hby d3_170) rfl (flt c1).1 k) ?_
      refine Goes.step (S' := s₁.setTop (mkF m 174 #[.val (.int p1)] [(.int p1)])) (fun t k => XS.iloadN X0.here hx rfl (hb hby d3_173) rfl k) ?_
      refine Goes.step (S' := s₁.setTop (mkF m 176 #[.val (.int p1)] [(.int (65533 : Int32)), (.int p1)])) (fun t k => X0.ldcInt hx hown (mvT hZ (hw _ (List.mem_of_getElem? (i := 24) rfl))) (g := (mkF m 174 #[.val (.int p1)] [(.int p1)])) rfl (hb hby d3_174) _ k) ?_
      by_cases c2 : (65533 : Int32) < p1
      · refine Goes.step (S' := s₁.setTop (mkF m 179 #[.val (.int p1)] [])) (fun t k => XS.icmpNo X0.here hx rfl (hb hby d3_176) rfl (tlt c2).2.2.2 k) ?_
        exact K179 (hq.trans (own_n13_g c1 c2))
      · refine Goes.step (S' := s₁.setTop (mkF m 191 #[.val (.int p1)] [])) (fun t k => XS.icmpYes X0.here hx rfl (pc0 := 176) (pc' := 191) rfl (hb hby d3_176) rfl (flt c2).2.2.2 (by decide) (by decide) k) ?_
        exact K191 (hq.trans (own_n13_y c1 c2))
  have K155 : ∀ (hq : own_n0 p1 = own_n12 p1), Goes p e below (R3 Z p1 h0 n0 s) (s₁.setTop (mkF m 155 #[.val (.int p1)] [])) := by
    intro hq
    refine Goes.step (S' := s₁.setTop (mkF m 156 #[.val (.int p1)] [(.int p1)])) (fun t k => XS.iloadN X0.here hx rfl (hb hby d3_155) rfl k) ?_
    refine Goes.step (S' := s₁.setTop (mkF m 158 #[.val (.int p1)] [(.int (63744 : Int32)), (.int p1)])) (fun t k => X0.ldcInt hx hown (mvT hZ (hw _ (List.mem_of_getElem? (i := 12) rfl))) (g := (mkF m 156 #[.val (.int p1)] [(.int p1)])) rfl (hb hby d3_156) _ k) ?_
    by_cases c1 : p1 < (63744 : Int32)
    · refine Goes.step (S' := s₁.setTop (mkF m 167 #[.val (.int p1)] [])) (fun t k => XS.icmpYes X0.here hx rfl (pc0 := 158) (pc' := 167) rfl (hb hby d3_158) rfl (tlt c1).1 (by decide) (by decide) k) ?_
      exact K167 (hq.trans (own_n12_l c1))
    · refine Goes.step (S' := s₁.setTop (mkF m 161 #[.val (.int p1)] [])) (fun t k => XS.icmpNo X0.here hx rfl (hb hby d3_158) rfl (flt c1).1 k) ?_
      refine Goes.step (S' := s₁.setTop (mkF m 162 #[.val (.int p1)] [(.int p1)])) (fun t k => XS.iloadN X0.here hx rfl (hb hby d3_161) rfl k) ?_
      refine Goes.step (S' := s₁.setTop (mkF m 164 #[.val (.int p1)] [(.int (64975 : Int32)), (.int p1)])) (fun t k => X0.ldcInt hx hown (mvT hZ (hw _ (List.mem_of_getElem? (i := 23) rfl))) (g := (mkF m 162 #[.val (.int p1)] [(.int p1)])) rfl (hb hby d3_162) _ k) ?_
      by_cases c2 : (64975 : Int32) < p1
      · refine Goes.step (S' := s₁.setTop (mkF m 167 #[.val (.int p1)] [])) (fun t k => XS.icmpNo X0.here hx rfl (hb hby d3_164) rfl (tlt c2).2.2.2 k) ?_
        exact K167 (hq.trans (own_n12_g c1 c2))
      · refine Goes.step (S' := s₁.setTop (mkF m 191 #[.val (.int p1)] [])) (fun t k => XS.icmpYes X0.here hx rfl (pc0 := 164) (pc' := 191) rfl (hb hby d3_164) rfl (flt c2).2.2.2 (by decide) (by decide) k) ?_
        exact K191 (hq.trans (own_n12_y c1 c2))
  have K142 : ∀ (hq : own_n0 p1 = own_n11 p1), Goes p e below (R3 Z p1 h0 n0 s) (s₁.setTop (mkF m 142 #[.val (.int p1)] [])) := by
    intro hq
    refine Goes.step (S' := s₁.setTop (mkF m 143 #[.val (.int p1)] [(.int p1)])) (fun t k => XS.iloadN X0.here hx rfl (hb hby d3_142) rfl k) ?_
    refine Goes.step (S' := s₁.setTop (mkF m 146 #[.val (.int p1)] [(.int (12289 : Int32)), (.int p1)])) (fun t k => XS.sipush X0.here hx rfl (hb hby d3_143) k) ?_
    by_cases c1 : p1 < (12289 : Int32)
    · refine Goes.step (S' := s₁.setTop (mkF m 155 #[.val (.int p1)] [])) (fun t k => XS.icmpYes X0.here hx rfl (pc0 := 146) (pc' := 155) rfl (hb hby d3_146) rfl (tlt c1).1 (by decide) (by decide) k) ?_
      exact K155 (hq.trans (own_n11_l c1))
    · refine Goes.step (S' := s₁.setTop (mkF m 149 #[.val (.int p1)] [])) (fun t k => XS.icmpNo X0.here hx rfl (hb hby d3_146) rfl (flt c1).1 k) ?_
      refine Goes.step (S' := s₁.setTop (mkF m 150 #[.val (.int p1)] [(.int p1)])) (fun t k => XS.iloadN X0.here hx rfl (hb hby d3_149) rfl k) ?_
      refine Goes.step (S' := s₁.setTop (mkF m 152 #[.val (.int p1)] [(.int (55295 : Int32)), (.int p1)])) (fun t k => X0.ldcInt hx hown (mvT hZ (hw _ (List.mem_of_getElem? (i := 22) rfl))) (g := (mkF m 150 #[.val (.int p1)] [(.int p1)])) rfl (hb hby d3_150) _ k) ?_
      by_cases c2 : (55295 : Int32) < p1
      · refine Goes.step (S' := s₁.setTop (mkF m 155 #[.val (.int p1)] [])) (fun t k => XS.icmpNo X0.here hx rfl (hb hby d3_152) rfl (tlt c2).2.2.2 k) ?_
        exact K155 (hq.trans (own_n11_g c1 c2))
      · refine Goes.step (S' := s₁.setTop (mkF m 191 #[.val (.int p1)] [])) (fun t k => XS.icmpYes X0.here hx rfl (pc0 := 152) (pc' := 191) rfl (hb hby d3_152) rfl (flt c2).2.2.2 (by decide) (by decide) k) ?_
        exact K191 (hq.trans (own_n11_y c1 c2))
  have K128 : ∀ (hq : own_n0 p1 = own_n10 p1), Goes p e below (R3 Z p1 h0 n0 s) (s₁.setTop (mkF m 128 #[.val (.int p1)] [])) := by
    intro hq
    refine Goes.step (S' := s₁.setTop (mkF m 129 #[.val (.int p1)] [(.int p1)])) (fun t k => XS.iloadN X0.here hx rfl (hb hby d3_128) rfl k) ?_
    refine Goes.step (S' := s₁.setTop (mkF m 132 #[.val (.int p1)] [(.int (11264 : Int32)), (.int p1)])) (fun t k => XS.sipush X0.here hx rfl (hb hby d3_129) k) ?_
    by_cases c1 : p1 < (11264 : Int32)
    · refine Goes.step (S' := s₁.setTop (mkF m 142 #[.val (.int p1)] [])) (fun t k => XS.icmpYes X0.here hx rfl (pc0 := 132) (pc' := 142) rfl (hb hby d3_132) rfl (tlt c1).1 (by decide) (by decide) k) ?_
      exact K142 (hq.trans (own_n10_l c1))
    · refine Goes.step (S' := s₁.setTop (mkF m 135 #[.val (.int p1)] [])) (fun t k => XS.icmpNo X0.here hx rfl (hb hby d3_132) rfl (flt c1).1 k) ?_
      refine Goes.step (S' := s₁.setTop (mkF m 136 #[.val (.int p1)] [(.int p1)])) (fun t k => XS.iloadN X0.here hx rfl (hb hby d3_135) rfl k) ?_
      refine Goes.step (S' := s₁.setTop (mkF m 139 #[.val (.int p1)] [(.int (12271 : Int32)), (.int p1)])) (fun t k => XS.sipush X0.here hx rfl (hb hby d3_136) k) ?_
      by_cases c2 : (12271 : Int32) < p1
      · refine Goes.step (S' := s₁.setTop (mkF m 142 #[.val (.int p1)] [])) (fun t k => XS.icmpNo X0.here hx rfl (hb hby d3_139) rfl (tlt c2).2.2.2 k) ?_
        exact K142 (hq.trans (own_n10_g c1 c2))
      · refine Goes.step (S' := s₁.setTop (mkF m 191 #[.val (.int p1)] [])) (fun t k => XS.icmpYes X0.here hx rfl (pc0 := 139) (pc' := 191) rfl (hb hby d3_139) rfl (flt c2).2.2.2 (by decide) (by decide) k) ?_
        exact K191 (hq.trans (own_n10_y c1 c2))
  have K114 : ∀ (hq : own_n0 p1 = own_n9 p1), Goes p e below (R3 Z p1 h0 n0 s) (s₁.setTop (mkF m 114 #[.val (.int p1)] [])) := by
    intro hq
    refine Goes.step (S' := s₁.setTop (mkF m 115 #[.val (.int p1)] [(.int p1)])) (fun t k => XS.iloadN X0.here hx rfl (hb hby d3_114) rfl k) ?_
    refine Goes.step (S' := s₁.setTop (mkF m 118 #[.val (.int p1)] [(.int (8304 : Int32)), (.int p1)])) (fun t k => XS.sipush X0.here hx rfl (hb hby d3_115) k) ?_
    by_cases c1 : p1 < (8304 : Int32)
    · refine Goes.step (S' := s₁.setTop (mkF m 128 #[.val (.int p1)] [])) (fun t k => XS.icmpYes X0.here hx rfl (pc0 := 118) (pc' := 128) rfl (hb hby d3_118) rfl (tlt c1).1 (by decide) (by decide) k) ?_
      exact K128 (hq.trans (own_n9_l c1))
    · refine Goes.step (S' := s₁.setTop (mkF m 121 #[.val (.int p1)] [])) (fun t k => XS.icmpNo X0.here hx rfl (hb hby d3_118) rfl (flt c1).1 k) ?_
      refine Goes.step (S' := s₁.setTop (mkF m 122 #[.val (.int p1)] [(.int p1)])) (fun t k => XS.iloadN X0.here hx rfl (hb hby d3_121) rfl k) ?_
      refine Goes.step (S' := s₁.setTop (mkF m 125 #[.val (.int p1)] [(.int (8591 : Int32)), (.int p1)])) (fun t k => XS.sipush X0.here hx rfl (hb hby d3_122) k) ?_
      by_cases c2 : (8591 : Int32) < p1
      · refine Goes.step (S' := s₁.setTop (mkF m 128 #[.val (.int p1)] [])) (fun t k => XS.icmpNo X0.here hx rfl (hb hby d3_125) rfl (tlt c2).2.2.2 k) ?_
        exact K128 (hq.trans (own_n9_g c1 c2))
      · refine Goes.step (S' := s₁.setTop (mkF m 191 #[.val (.int p1)] [])) (fun t k => XS.icmpYes X0.here hx rfl (pc0 := 125) (pc' := 191) rfl (hb hby d3_125) rfl (flt c2).2.2.2 (by decide) (by decide) k) ?_
        exact K191 (hq.trans (own_n9_y c1 c2))
  have K100 : ∀ (hq : own_n0 p1 = own_n8 p1), Goes p e below (R3 Z p1 h0 n0 s) (s₁.setTop (mkF m 100 #[.val (.int p1)] [])) := by
    intro hq
    refine Goes.step (S' := s₁.setTop (mkF m 101 #[.val (.int p1)] [(.int p1)])) (fun t k => XS.iloadN X0.here hx rfl (hb hby d3_100) rfl k) ?_
    refine Goes.step (S' := s₁.setTop (mkF m 104 #[.val (.int p1)] [(.int (8204 : Int32)), (.int p1)])) (fun t k => XS.sipush X0.here hx rfl (hb hby d3_101) k) ?_
    by_cases c1 : p1 < (8204 : Int32)
    · refine Goes.step (S' := s₁.setTop (mkF m 114 #[.val (.int p1)] [])) (fun t k => XS.icmpYes X0.here hx rfl (pc0 := 104) (pc' := 114) rfl (hb hby d3_104) rfl (tlt c1).1 (by decide) (by decide) k) ?_
      exact K114 (hq.trans (own_n8_l c1))
    · refine Goes.step (S' := s₁.setTop (mkF m 107 #[.val (.int p1)] [])) (fun t k => XS.icmpNo X0.here hx rfl (hb hby d3_104) rfl (flt c1).1 k) ?_
      refine Goes.step (S' := s₁.setTop (mkF m 108 #[.val (.int p1)] [(.int p1)])) (fun t k => XS.iloadN X0.here hx rfl (hb hby d3_107) rfl k) ?_
      refine Goes.step (S' := s₁.setTop (mkF m 111 #[.val (.int p1)] [(.int (8205 : Int32)), (.int p1)])) (fun t k => XS.sipush X0.here hx rfl (hb hby d3_108) k) ?_
      by_cases c2 : (8205 : Int32) < p1
      · refine Goes.step (S' := s₁.setTop (mkF m 114 #[.val (.int p1)] [])) (fun t k => XS.icmpNo X0.here hx rfl (hb hby d3_111) rfl (tlt c2).2.2.2 k) ?_
        exact K114 (hq.trans (own_n8_g c1 c2))
      · refine Goes.step (S' := s₁.setTop (mkF m 191 #[.val (.int p1)] [])) (fun t k => XS.icmpYes X0.here hx rfl (pc0 := 111) (pc' := 191) rfl (hb hby d3_111) rfl (flt c2).2.2.2 (by decide) (by decide) k) ?_
        exact K191 (hq.trans (own_n8_y c1 c2))
  have K86 : ∀ (hq : own_n0 p1 = own_n7 p1), Goes p e below (R3 Z p1 h0 n0 s) (s₁.setTop (mkF m 86 #[.val (.int p1)] [])) := by
    intro hq
    refine Goes.step (S' := s₁.setTop (mkF m 87 #[.val (.int p1)] [(.int p1)])) (fun t k => XS.iloadN X0.here hx rfl (hb hby d3_86) rfl k) ?_
    refine Goes.step (S' := s₁.setTop (mkF m 90 #[.val (.int p1)] [(.int (895 : Int32)), (.int p1)])) (fun t k => XS.sipush X0.here hx rfl (hb hby d3_87) k) ?_
    by_cases c1 : p1 < (895 : Int32)
    · refine Goes.step (S' := s₁.setTop (mkF m 100 #[.val (.int p1)] [])) (fun t k => XS.icmpYes X0.here hx rfl (pc0 := 90) (pc' := 100) rfl (hb hby d3_90) rfl (tlt c1).1 (by decide) (by decide) k) ?_
      exact K100 (hq.trans (own_n7_l c1))
    · refine Goes.step (S' := s₁.setTop (mkF m 93 #[.val (.int p1)] [])) (fun t k => XS.icmpNo X0.here hx rfl (hb hby d3_90) rfl (flt c1).1 k) ?_
      refine Goes.step (S' := s₁.setTop (mkF m 94 #[.val (.int p1)] [(.int p1)])) (fun t k => XS.iloadN X0.here hx rfl (hb hby d3_93) rfl k) ?_
      refine Goes.step (S' := s₁.setTop (mkF m 97 #[.val (.int p1)] [(.int (8191 : Int32)), (.int p1)])) (fun t k => XS.sipush X0.here hx rfl (hb hby d3_94) k) ?_
      by_cases c2 : (8191 : Int32) < p1
      · refine Goes.step (S' := s₁.setTop (mkF m 100 #[.val (.int p1)] [])) (fun t k => XS.icmpNo X0.here hx rfl (hb hby d3_97) rfl (tlt c2).2.2.2 k) ?_
        exact K100 (hq.trans (own_n7_g c1 c2))
      · refine Goes.step (S' := s₁.setTop (mkF m 191 #[.val (.int p1)] [])) (fun t k => XS.icmpYes X0.here hx rfl (pc0 := 97) (pc' := 191) rfl (hb hby d3_97) rfl (flt c2).2.2.2 (by decide) (by decide) k) ?_
        exact K191 (hq.trans (own_n7_y c1 c2))
  have K72 : ∀ (hq : own_n0 p1 = own_n6 p1), Goes p e below (R3 Z p1 h0 n0 s) (s₁.setTop (mkF m 72 #[.val (.int p1)] [])) := by
    intro hq
    refine Goes.step (S' := s₁.setTop (mkF m 73 #[.val (.int p1)] [(.int p1)])) (fun t k => XS.iloadN X0.here hx rfl (hb hby d3_72) rfl k) ?_
    refine Goes.step (S' := s₁.setTop (mkF m 76 #[.val (.int p1)] [(.int (880 : Int32)), (.int p1)])) (fun t k => XS.sipush X0.here hx rfl (hb hby d3_73) k) ?_
    by_cases c1 : p1 < (880 : Int32)
    · refine Goes.step (S' := s₁.setTop (mkF m 86 #[.val (.int p1)] [])) (fun t k => XS.icmpYes X0.here hx rfl (pc0 := 76) (pc' := 86) rfl (hb hby d3_76) rfl (tlt c1).1 (by decide) (by decide) k) ?_
      exact K86 (hq.trans (own_n6_l c1))
    · refine Goes.step (S' := s₁.setTop (mkF m 79 #[.val (.int p1)] [])) (fun t k => XS.icmpNo X0.here hx rfl (hb hby d3_76) rfl (flt c1).1 k) ?_
      refine Goes.step (S' := s₁.setTop (mkF m 80 #[.val (.int p1)] [(.int p1)])) (fun t k => XS.iloadN X0.here hx rfl (hb hby d3_79) rfl k) ?_
      refine Goes.step (S' := s₁.setTop (mkF m 83 #[.val (.int p1)] [(.int (893 : Int32)), (.int p1)])) (fun t k => XS.sipush X0.here hx rfl (hb hby d3_80) k) ?_
      by_cases c2 : (893 : Int32) < p1
      · refine Goes.step (S' := s₁.setTop (mkF m 86 #[.val (.int p1)] [])) (fun t k => XS.icmpNo X0.here hx rfl (hb hby d3_83) rfl (tlt c2).2.2.2 k) ?_
        exact K86 (hq.trans (own_n6_g c1 c2))
      · refine Goes.step (S' := s₁.setTop (mkF m 191 #[.val (.int p1)] [])) (fun t k => XS.icmpYes X0.here hx rfl (pc0 := 83) (pc' := 191) rfl (hb hby d3_83) rfl (flt c2).2.2.2 (by decide) (by decide) k) ?_
        exact K191 (hq.trans (own_n6_y c1 c2))
  have K58 : ∀ (hq : own_n0 p1 = own_n5 p1), Goes p e below (R3 Z p1 h0 n0 s) (s₁.setTop (mkF m 58 #[.val (.int p1)] [])) := by
    intro hq
    refine Goes.step (S' := s₁.setTop (mkF m 59 #[.val (.int p1)] [(.int p1)])) (fun t k => XS.iloadN X0.here hx rfl (hb hby d3_58) rfl k) ?_
    refine Goes.step (S' := s₁.setTop (mkF m 62 #[.val (.int p1)] [(.int (248 : Int32)), (.int p1)])) (fun t k => XS.sipush X0.here hx rfl (hb hby d3_59) k) ?_
    by_cases c1 : p1 < (248 : Int32)
    · refine Goes.step (S' := s₁.setTop (mkF m 72 #[.val (.int p1)] [])) (fun t k => XS.icmpYes X0.here hx rfl (pc0 := 62) (pc' := 72) rfl (hb hby d3_62) rfl (tlt c1).1 (by decide) (by decide) k) ?_
      exact K72 (hq.trans (own_n5_l c1))
    · refine Goes.step (S' := s₁.setTop (mkF m 65 #[.val (.int p1)] [])) (fun t k => XS.icmpNo X0.here hx rfl (hb hby d3_62) rfl (flt c1).1 k) ?_
      refine Goes.step (S' := s₁.setTop (mkF m 66 #[.val (.int p1)] [(.int p1)])) (fun t k => XS.iloadN X0.here hx rfl (hb hby d3_65) rfl k) ?_
      refine Goes.step (S' := s₁.setTop (mkF m 69 #[.val (.int p1)] [(.int (767 : Int32)), (.int p1)])) (fun t k => XS.sipush X0.here hx rfl (hb hby d3_66) k) ?_
      by_cases c2 : (767 : Int32) < p1
      · refine Goes.step (S' := s₁.setTop (mkF m 72 #[.val (.int p1)] [])) (fun t k => XS.icmpNo X0.here hx rfl (hb hby d3_69) rfl (tlt c2).2.2.2 k) ?_
        exact K72 (hq.trans (own_n5_g c1 c2))
      · refine Goes.step (S' := s₁.setTop (mkF m 191 #[.val (.int p1)] [])) (fun t k => XS.icmpYes X0.here hx rfl (pc0 := 69) (pc' := 191) rfl (hb hby d3_69) rfl (flt c2).2.2.2 (by decide) (by decide) k) ?_
        exact K191 (hq.trans (own_n5_y c1 c2))
  have K44 : ∀ (hq : own_n0 p1 = own_n4 p1), Goes p e below (R3 Z p1 h0 n0 s) (s₁.setTop (mkF m 44 #[.val (.int p1)] [])) := by
    intro hq
    refine Goes.step (S' := s₁.setTop (mkF m 45 #[.val (.int p1)] [(.int p1)])) (fun t k => XS.iloadN X0.here hx rfl (hb hby d3_44) rfl k) ?_
    refine Goes.step (S' := s₁.setTop (mkF m 48 #[.val (.int p1)] [(.int (216 : Int32)), (.int p1)])) (fun t k => XS.sipush X0.here hx rfl (hb hby d3_45) k) ?_
    by_cases c1 : p1 < (216 : Int32)
    · refine Goes.step (S' := s₁.setTop (mkF m 58 #[.val (.int p1)] [])) (fun t k => XS.icmpYes X0.here hx rfl (pc0 := 48) (pc' := 58) rfl (hb hby d3_48) rfl (tlt c1).1 (by decide) (by decide) k) ?_
      exact K58 (hq.trans (own_n4_l c1))
    · refine Goes.step (S' := s₁.setTop (mkF m 51 #[.val (.int p1)] [])) (fun t k => XS.icmpNo X0.here hx rfl (hb hby d3_48) rfl (flt c1).1 k) ?_
      refine Goes.step (S' := s₁.setTop (mkF m 52 #[.val (.int p1)] [(.int p1)])) (fun t k => XS.iloadN X0.here hx rfl (hb hby d3_51) rfl k) ?_
      refine Goes.step (S' := s₁.setTop (mkF m 55 #[.val (.int p1)] [(.int (246 : Int32)), (.int p1)])) (fun t k => XS.sipush X0.here hx rfl (hb hby d3_52) k) ?_
      by_cases c2 : (246 : Int32) < p1
      · refine Goes.step (S' := s₁.setTop (mkF m 58 #[.val (.int p1)] [])) (fun t k => XS.icmpNo X0.here hx rfl (hb hby d3_55) rfl (tlt c2).2.2.2 k) ?_
        exact K58 (hq.trans (own_n4_g c1 c2))
      · refine Goes.step (S' := s₁.setTop (mkF m 191 #[.val (.int p1)] [])) (fun t k => XS.icmpYes X0.here hx rfl (pc0 := 55) (pc' := 191) rfl (hb hby d3_55) rfl (flt c2).2.2.2 (by decide) (by decide) k) ?_
        exact K191 (hq.trans (own_n4_y c1 c2))
  have K30 : ∀ (hq : own_n0 p1 = own_n3 p1), Goes p e below (R3 Z p1 h0 n0 s) (s₁.setTop (mkF m 30 #[.val (.int p1)] [])) := by
    intro hq
    refine Goes.step (S' := s₁.setTop (mkF m 31 #[.val (.int p1)] [(.int p1)])) (fun t k => XS.iloadN X0.here hx rfl (hb hby d3_30) rfl k) ?_
    refine Goes.step (S' := s₁.setTop (mkF m 34 #[.val (.int p1)] [(.int (192 : Int32)), (.int p1)])) (fun t k => XS.sipush X0.here hx rfl (hb hby d3_31) k) ?_
    by_cases c1 : p1 < (192 : Int32)
    · refine Goes.step (S' := s₁.setTop (mkF m 44 #[.val (.int p1)] [])) (fun t k => XS.icmpYes X0.here hx rfl (pc0 := 34) (pc' := 44) rfl (hb hby d3_34) rfl (tlt c1).1 (by decide) (by decide) k) ?_
      exact K44 (hq.trans (own_n3_l c1))
    · refine Goes.step (S' := s₁.setTop (mkF m 37 #[.val (.int p1)] [])) (fun t k => XS.icmpNo X0.here hx rfl (hb hby d3_34) rfl (flt c1).1 k) ?_
      refine Goes.step (S' := s₁.setTop (mkF m 38 #[.val (.int p1)] [(.int p1)])) (fun t k => XS.iloadN X0.here hx rfl (hb hby d3_37) rfl k) ?_
      refine Goes.step (S' := s₁.setTop (mkF m 41 #[.val (.int p1)] [(.int (214 : Int32)), (.int p1)])) (fun t k => XS.sipush X0.here hx rfl (hb hby d3_38) k) ?_
      by_cases c2 : (214 : Int32) < p1
      · refine Goes.step (S' := s₁.setTop (mkF m 44 #[.val (.int p1)] [])) (fun t k => XS.icmpNo X0.here hx rfl (hb hby d3_41) rfl (tlt c2).2.2.2 k) ?_
        exact K44 (hq.trans (own_n3_g c1 c2))
      · refine Goes.step (S' := s₁.setTop (mkF m 191 #[.val (.int p1)] [])) (fun t k => XS.icmpYes X0.here hx rfl (pc0 := 41) (pc' := 191) rfl (hb hby d3_41) rfl (flt c2).2.2.2 (by decide) (by decide) k) ?_
        exact K191 (hq.trans (own_n3_y c1 c2))
  have K24 : ∀ (hq : own_n0 p1 = own_n2 p1), Goes p e below (R3 Z p1 h0 n0 s) (s₁.setTop (mkF m 24 #[.val (.int p1)] [])) := by
    intro hq
    refine Goes.step (S' := s₁.setTop (mkF m 25 #[.val (.int p1)] [(.int p1)])) (fun t k => XS.iloadN X0.here hx rfl (hb hby d3_24) rfl k) ?_
    refine Goes.step (S' := s₁.setTop (mkF m 27 #[.val (.int p1)] [(.int (95 : Int32)), (.int p1)])) (fun t k => XS.bipush X0.here hx rfl (hb hby d3_25) k) ?_
    by_cases c1 : p1 = (95 : Int32)
    · refine Goes.step (S' := s₁.setTop (mkF m 191 #[.val (.int p1)] [])) (fun t k => XS.icmpYes X0.here hx rfl (pc0 := 27) (pc' := 191) rfl (hb hby d3_27) rfl (teq c1).1 (by decide) (by decide) k) ?_
      exact K191 (hq.trans (own_n2_y c1))
    · refine Goes.step (S' := s₁.setTop (mkF m 30 #[.val (.int p1)] [])) (fun t k => XS.icmpNo X0.here hx rfl (hb hby d3_27) rfl (feq c1).1 k) ?_
      exact K30 (hq.trans (own_n2_n c1))
  have K12 : ∀ (hq : own_n0 p1 = own_n1 p1), Goes p e below (R3 Z p1 h0 n0 s) (s₁.setTop (mkF m 12 #[.val (.int p1)] [])) := by
    intro hq
    refine Goes.step (S' := s₁.setTop (mkF m 13 #[.val (.int p1)] [(.int p1)])) (fun t k => XS.iloadN X0.here hx rfl (hb hby d3_12) rfl k) ?_
    refine Goes.step (S' := s₁.setTop (mkF m 15 #[.val (.int p1)] [(.int (65 : Int32)), (.int p1)])) (fun t k => XS.bipush X0.here hx rfl (hb hby d3_13) k) ?_
    by_cases c1 : p1 < (65 : Int32)
    · refine Goes.step (S' := s₁.setTop (mkF m 24 #[.val (.int p1)] [])) (fun t k => XS.icmpYes X0.here hx rfl (pc0 := 15) (pc' := 24) rfl (hb hby d3_15) rfl (tlt c1).1 (by decide) (by decide) k) ?_
      exact K24 (hq.trans (own_n1_l c1))
    · refine Goes.step (S' := s₁.setTop (mkF m 18 #[.val (.int p1)] [])) (fun t k => XS.icmpNo X0.here hx rfl (hb hby d3_15) rfl (flt c1).1 k) ?_
      refine Goes.step (S' := s₁.setTop (mkF m 19 #[.val (.int p1)] [(.int p1)])) (fun t k => XS.iloadN X0.here hx rfl (hb hby d3_18) rfl k) ?_
      refine Goes.step (S' := s₁.setTop (mkF m 21 #[.val (.int p1)] [(.int (90 : Int32)), (.int p1)])) (fun t k => XS.bipush X0.here hx rfl (hb hby d3_19) k) ?_
      by_cases c2 : (90 : Int32) < p1
      · refine Goes.step (S' := s₁.setTop (mkF m 24 #[.val (.int p1)] [])) (fun t k => XS.icmpNo X0.here hx rfl (hb hby d3_21) rfl (tlt c2).2.2.2 k) ?_
        exact K24 (hq.trans (own_n1_g c1 c2))
      · refine Goes.step (S' := s₁.setTop (mkF m 191 #[.val (.int p1)] [])) (fun t k => XS.icmpYes X0.here hx rfl (pc0 := 21) (pc' := 191) rfl (hb hby d3_21) rfl (flt c2).2.2.2 (by decide) (by decide) k) ?_
        exact K191 (hq.trans (own_n1_y c1 c2))
  have K0 : ∀ (hq : own_n0 p1 = own_n0 p1), Goes p e below (R3 Z p1 h0 n0 s) (s₁.setTop (mkF m 0 #[.val (.int p1)] [])) := by
    intro hq
    refine Goes.step (S' := s₁.setTop (mkF m 1 #[.val (.int p1)] [(.int p1)])) (fun t k => XS.iloadN X0.here hx rfl (hb hby d3_0) rfl k) ?_
    refine Goes.step (S' := s₁.setTop (mkF m 3 #[.val (.int p1)] [(.int (97 : Int32)), (.int p1)])) (fun t k => XS.bipush X0.here hx rfl (hb hby d3_1) k) ?_
    by_cases c1 : p1 < (97 : Int32)
    · refine Goes.step (S' := s₁.setTop (mkF m 12 #[.val (.int p1)] [])) (fun t k => XS.icmpYes X0.here hx rfl (pc0 := 3) (pc' := 12) rfl (hb hby d3_3) rfl (tlt c1).1 (by decide) (by decide) k) ?_
      exact K12 (hq.trans (own_n0_l c1))
    · refine Goes.step (S' := s₁.setTop (mkF m 6 #[.val (.int p1)] [])) (fun t k => XS.icmpNo X0.here hx rfl (hb hby d3_3) rfl (flt c1).1 k) ?_
      refine Goes.step (S' := s₁.setTop (mkF m 7 #[.val (.int p1)] [(.int p1)])) (fun t k => XS.iloadN X0.here hx rfl (hb hby d3_6) rfl k) ?_
      refine Goes.step (S' := s₁.setTop (mkF m 9 #[.val (.int p1)] [(.int (122 : Int32)), (.int p1)])) (fun t k => XS.bipush X0.here hx rfl (hb hby d3_7) k) ?_
      by_cases c2 : (122 : Int32) < p1
      · refine Goes.step (S' := s₁.setTop (mkF m 12 #[.val (.int p1)] [])) (fun t k => XS.icmpNo X0.here hx rfl (hb hby d3_9) rfl (tlt c2).2.2.2 k) ?_
        exact K12 (hq.trans (own_n0_g c1 c2))
      · refine Goes.step (S' := s₁.setTop (mkF m 191 #[.val (.int p1)] [])) (fun t k => XS.icmpYes X0.here hx rfl (pc0 := 9) (pc' := 191) rfl (hb hby d3_9) rfl (flt c2).2.2.2 (by decide) (by decide) k) ?_
        exact K191 (hq.trans (own_n0_y c1 c2))
  exact K0 rfl
theorem pn_0 : plainName "com/example/sapwood/sapwood/query/LexerIsNameStartPinLaw" = true := by first | (simp [plainName, overriddenIn]; done) | decide +kernel
theorem pd_0 : parseMethodDescriptor "(II)Z" = some ⟨[.int, .int], some .boolean⟩ := by decide +kernel
theorem ef_0 (m : MethodId) (y0 : Int32) (y1 : Int32) : entryFrame m #[(.int y0), (.int y1)] maxLocals = mkF m 0 #[.val (.int y0), .val (.int y1), .unset, .unset] [] := by first | (simp [entryFrame, mkF, argsToLocals, Value.category, maxLocals]; done) | rfl
def Q0 (Z : State) (p1 : Int32) (p2 : Int32) (h0 : Heap) (n0 : Nat) (v : Option Value) (h : Heap) (L : List Loc) : Prop := v = some (.int 1) ∧ Fr n0 L
def R0 (Z : State) (p1 : Int32) (p2 : Int32) (h0 : Heap) (n0 : Nat) (U : State) (U' : State) (o : Outcome) : Prop := ∃ v L, o = .returned v ∧ Q0 Z p1 p2 h0 n0 v U'.heap L ∧ FrameEnd U o U' L room_1.cells room_1.slots
set_option maxRecDepth 65536 in
set_option maxHeartbeats 40000000 in
theorem rm0 (l : Launch) (Z : State) (a0 : Array Value) (hw : ∀ d ∈ tables_1, d.before a0 Z = true) (ws : List Jvm.Cond) (p1 : Int32) (p2 : Int32) (h0 : Heap) (n0 : Nat) (Z0 : n0 ≤ h0.size)  :
    MetFree l x (head1 (Jvm.Cond.code x code maxLocals ret :: ws) room_1) (fun a U => a = #[(.int p1), (.int p2)] ∧ Z.Warmed39 U.vm ∧ U.heap = h0) (fun _ _ _ _ _ => True) (fun _ U o U' => ∃ v L, o = .returned v ∧ Q0 Z p1 p2 h0 n0 v U'.heap L ∧ FrameEnd U o U' L room_1.cells room_1.slots) := by
  refine MetFree.of_bodySF (plainFor_of_name pn_0) hisR ?_
  intro p e s m args below meth c s₁ Bd hml0 hP hK
  obtain ⟨rfl, hZ, hh⟩ := hP
  have hx := Bd.exec
  have hby := Bd.bytes
  have hml : c.maxLocals = 4 := hml0
  have hown : s.vm.findClass "com/example/sapwood/sapwood/query/LexerIsNameStartPinLaw" = some m.cls := findClass_of_methodNamed Bd.named
  have hnm := (name_of_methodNamed Bd.named Bd.method).1
  have X0 : Stand p l e room_1 s m #[(.int p1), (.int p2)] below meth c s₁ [] 0 0 := Stand.of_body Bd
  have e0 : s₁.heap = h0 := by rw [← hh, Bd.state]; rfl
  have N0 := Fr.nil n0
  show Goes p e below (R0 Z p1 p2 h0 n0 s) (s₁.setTop (entryFrame m #[(.int p1), (.int p2)] maxLocals))
  refine Goes.step (S' := s₁.setTop (mkF m 0 #[.val (.int p1), .val (.int p2), .unset, .unset] [])) (fun t k => castTop (ef_0 m p1 p2) k) ?_
  refine Goes.step (S' := s₁.setTop (mkF m 2 #[.val (.int p1), .val (.int p2), .unset, .unset] [(.int (30 : Int32))])) (fun t k => XS.bipush X0.here hx rfl (hb hby at_0) k) ?_
  obtain ⟨T48, h48, k48, X48, e48, E48, A48, st48⟩ := newP X0 hx hZ (aty := .int) (hw _ (List.mem_of_getElem? (i := 0) rfl)) e0 (g := (mkF m 2 #[.val (.int p1), .val (.int p2), .unset, .unset] [(.int (30 : Int32))])) rfl (hb hby at_2) rfl (by decide) (cap := 30) (by decide) (by decide) (by decide) (by decide)
  obtain ⟨a1, g1⟩ : ∃ z, z = h0.size := ⟨_, rfl⟩
  rw [← g1] at A48 st48
  have ga : n0 ≤ a1 := Nat.le_trans Z0 (Nat.le_of_eq g1.symm)
  have V0 : own_arr Z h48 a1 0 := own_arr_new A48
  refine Goes.step (S' := T48.setTop (mkF m 4 #[.val (.int p1), .val (.int p2), .unset, .unset] [(.ref a1)])) (fun t k => st48 t k) ?_
  refine Goes.step (S' := T48.setTop (mkF m 5 #[.val (.int p1), .val (.int p2), .unset, .unset] [(.ref a1), (.ref a1)])) (fun t k => XS.dup X48.here hx rfl (hb hby at_4) rfl rfl k) ?_
  refine Goes.step (S' := T48.setTop (mkF m 6 #[.val (.int p1), .val (.int p2), .unset, .unset] [(.int (0 : Int32)), (.ref a1), (.ref a1)])) (fun t k => XS.iconst X48.here hx rfl (hb hby at_5) k) ?_
  refine Goes.step (S' := T48.setTop (mkF m 8 #[.val (.int p1), .val (.int p2), .unset, .unset] [(.int (65 : Int32)), (.int (0 : Int32)), (.ref a1), (.ref a1)])) (fun t k => XS.bipush X48.here hx rfl (hb hby at_6) k) ?_
  obtain ⟨cl, Ar, Sz, Hs⟩ := V0
  obtain ⟨T49, h49, X49, e49, W49, st49⟩ := stI X48 hx hZ e48 Ar (j := (0 : Int32)) (by rw [Sz]; decide) (g := (mkF m 8 #[.val (.int p1), .val (.int p2), .unset, .unset] [(.int (65 : Int32)), (.int (0 : Int32)), (.ref a1), (.ref a1)])) rfl rfl (hb hby at_8)
  have V1 : own_arr Z h49 a1 1 := own_arr_put Ar Sz Hs W49 rfl rfl (by decide)
  have N49 := Fr.snoc X49 N0 ga
  refine Goes.step (S' := T49.setTop (mkF m 9 #[.val (.int p1), .val (.int p2), .unset, .unset] [(.ref a1)])) (fun t k => st49 t k) ?_
  obtain ⟨Lp49, Xp49, Np49⟩ : ∃ L, Stand p l e room_1 s m #[(.int p1), (.int p2)] below meth c T49 L 1 30 ∧ Fr n0 L := ⟨_, X49, N49⟩
  clear X49 N49 st49 W49 Ar Sz Hs
  clear cl
  refine Goes.step (S' := T49.setTop (mkF m 10 #[.val (.int p1), .val (.int p2), .unset, .unset] [(.ref a1), (.ref a1)])) (fun t k => XS.dup Xp49.here hx rfl (hb hby at_9) rfl rfl k) ?_
  refine Goes.step (S' := T49.setTop (mkF m 11 #[.val (.int p1), .val (.int p2), .unset, .unset] [(.int (1 : Int32)), (.ref a1), (.ref a1)])) (fun t k => XS.iconst Xp49.here hx rfl (hb hby at_10) k) ?_
  refine Goes.step (S' := T49.setTop (mkF m 13 #[.val (.int p1), .val (.int p2), .unset, .unset] [(.int (91 : Int32)), (.int (1 : Int32)), (.ref a1), (.ref a1)])) (fun t k => XS.bipush Xp49.here hx rfl (hb hby at_11) k) ?_
  obtain ⟨cl, Ar, Sz, Hs⟩ := V1
  obtain ⟨T50, h50, X50, e50, W50, st50⟩ := stI Xp49 hx hZ e49 Ar (j := (1 : Int32)) (by rw [Sz]; decide) (g := (mkF m 13 #[.val (.int p1), .val (.int p2), .unset, .unset] [(.int (91 : Int32)), (.int (1 : Int32)), (.ref a1), (.ref a1)])) rfl rfl (hb hby at_13)
  have V2 : own_arr Z h50 a1 2 := own_arr_put Ar Sz Hs W50 rfl rfl (by decide)
  have N50 := Fr.snoc X50 Np49 ga
  refine Goes.step (S' := T50.setTop (mkF m 14 #[.val (.int p1), .val (.int p2), .unset, .unset] [(.ref a1)])) (fun t k => st50 t k) ?_
  obtain ⟨Lp50, Xp50, Np50⟩ : ∃ L, Stand p l e room_1 s m #[(.int p1), (.int p2)] below meth c T50 L 1 30 ∧ Fr n0 L := ⟨_, X50, N50⟩
  clear X50 N50 st50 W50 Ar Sz Hs
  clear cl
  clear Xp49 Np49 e49
  clear T49 h49 Lp49
  refine Goes.step (S' := T50.setTop (mkF m 15 #[.val (.int p1), .val (.int p2), .unset, .unset] [(.ref a1), (.ref a1)])) (fun t k => XS.dup Xp50.here hx rfl (hb hby at_14) rfl rfl k) ?_
  refine Goes.step (S' := T50.setTop (mkF m 16 #[.val (.int p1), .val (.int p2), .unset, .unset] [(.int (2 : Int32)), (.ref a1), (.ref a1)])) (fun t k => XS.iconst Xp50.here hx rfl (hb hby at_15) k) ?_
  refine Goes.step (S' := T50.setTop (mkF m 18 #[.val (.int p1), .val (.int p2), .unset, .unset] [(.int (95 : Int32)), (.int (2 : Int32)), (.ref a1), (.ref a1)])) (fun t k => XS.bipush Xp50.here hx rfl (hb hby at_16) k) ?_
  obtain ⟨cl, Ar, Sz, Hs⟩ := V2
  obtain ⟨T51, h51, X51, e51, W51, st51⟩ := stI Xp50 hx hZ e50 Ar (j := (2 : Int32)) (by rw [Sz]; decide) (g := (mkF m 18 #[.val (.int p1), .val (.int p2), .unset, .unset] [(.int (95 : Int32)), (.int (2 : Int32)), (.ref a1), (.ref a1)])) rfl rfl (hb hby at_18)
  have V3 : own_arr Z h51 a1 3 := own_arr_put Ar Sz Hs W51 rfl rfl (by decide)
  have N51 := Fr.snoc X51 Np50 ga
  refine Goes.step (S' := T51.setTop (mkF m 19 #[.val (.int p1), .val (.int p2), .unset, .unset] [(.ref a1)])) (fun t k => st51 t k) ?_
  obtain ⟨Lp51, Xp51, Np51⟩ : ∃ L, Stand p l e room_1 s m #[(.int p1), (.int p2)] below meth c T51 L 1 30 ∧ Fr n0 L := ⟨_, X51, N51⟩
  clear X51 N51 st51 W51 Ar Sz Hs
  clear cl
  clear Xp50 Np50 e50
  clear T50 h50 Lp50
  refine Goes.step (S' := T51.setTop (mkF m 20 #[.val (.int p1), .val (.int p2), .unset, .unset] [(.ref a1), (.ref a1)])) (fun t k => XS.dup Xp51.here hx rfl (hb hby at_19) rfl rfl k) ?_
  refine Goes.step (S' := T51.setTop (mkF m 21 #[.val (.int p1), .val (.int p2), .unset, .unset] [(.int (3 : Int32)), (.ref a1), (.ref a1)])) (fun t k => XS.iconst Xp51.here hx rfl (hb hby at_20) k) ?_
  refine Goes.step (S' := T51.setTop (mkF m 23 #[.val (.int p1), .val (.int p2), .unset, .unset] [(.int (96 : Int32)), (.int (3 : Int32)), (.ref a1), (.ref a1)])) (fun t k => XS.bipush Xp51.here hx rfl (hb hby at_21) k) ?_
  obtain ⟨cl, Ar, Sz, Hs⟩ := V3
  obtain ⟨T52, h52, X52, e52, W52, st52⟩ := stI Xp51 hx hZ e51 Ar (j := (3 : Int32)) (by rw [Sz]; decide) (g := (mkF m 23 #[.val (.int p1), .val (.int p2), .unset, .unset] [(.int (96 : Int32)), (.int (3 : Int32)), (.ref a1), (.ref a1)])) rfl rfl (hb hby at_23)
  have V4 : own_arr Z h52 a1 4 := own_arr_put Ar Sz Hs W52 rfl rfl (by decide)
  have N52 := Fr.snoc X52 Np51 ga
  refine Goes.step (S' := T52.setTop (mkF m 24 #[.val (.int p1), .val (.int p2), .unset, .unset] [(.ref a1)])) (fun t k => st52 t k) ?_
  obtain ⟨Lp52, Xp52, Np52⟩ : ∃ L, Stand p l e room_1 s m #[(.int p1), (.int p2)] below meth c T52 L 1 30 ∧ Fr n0 L := ⟨_, X52, N52⟩
  clear X52 N52 st52 W52 Ar Sz Hs
  clear cl
  clear Xp51 Np51 e51
  clear T51 h51 Lp51
  refine Goes.step (S' := T52.setTop (mkF m 25 #[.val (.int p1), .val (.int p2), .unset, .unset] [(.ref a1), (.ref a1)])) (fun t k => XS.dup Xp52.here hx rfl (hb hby at_24) rfl rfl k) ?_
  refine Goes.step (S' := T52.setTop (mkF m 26 #[.val (.int p1), .val (.int p2), .unset, .unset] [(.int (4 : Int32)), (.ref a1), (.ref a1)])) (fun t k => XS.iconst Xp52.here hx rfl (hb hby at_25) k) ?_
  refine Goes.step (S' := T52.setTop (mkF m 28 #[.val (.int p1), .val (.int p2), .unset, .unset] [(.int (97 : Int32)), (.int (4 : Int32)), (.ref a1), (.ref a1)])) (fun t k => XS.bipush Xp52.here hx rfl (hb hby at_26) k) ?_
  obtain ⟨cl, Ar, Sz, Hs⟩ := V4
  obtain ⟨T53, h53, X53, e53, W53, st53⟩ := stI Xp52 hx hZ e52 Ar (j := (4 : Int32)) (by rw [Sz]; decide) (g := (mkF m 28 #[.val (.int p1), .val (.int p2), .unset, .unset] [(.int (97 : Int32)), (.int (4 : Int32)), (.ref a1), (.ref a1)])) rfl rfl (hb hby at_28)
  have V5 : own_arr Z h53 a1 5 := own_arr_put Ar Sz Hs W53 rfl rfl (by decide)
  have N53 := Fr.snoc X53 Np52 ga
  refine Goes.step (S' := T53.setTop (mkF m 29 #[.val (.int p1), .val (.int p2), .unset, .unset] [(.ref a1)])) (fun t k => st53 t k) ?_
  obtain ⟨Lp53, Xp53, Np53⟩ : ∃ L, Stand p l e room_1 s m #[(.int p1), (.int p2)] below meth c T53 L 1 30 ∧ Fr n0 L := ⟨_, X53, N53⟩
  clear X53 N53 st53 W53 Ar Sz Hs
  clear cl
  clear Xp52 Np52 e52
  clear T52 h52 Lp52
  refine Goes.step (S' := T53.setTop (mkF m 30 #[.val (.int p1), .val (.int p2), .unset, .unset] [(.ref a1), (.ref a1)])) (fun t k => XS.dup Xp53.here hx rfl (hb hby at_29) rfl rfl k) ?_
  refine Goes.step (S' := T53.setTop (mkF m 31 #[.val (.int p1), .val (.int p2), .unset, .unset] [(.int (5 : Int32)), (.ref a1), (.ref a1)])) (fun t k => XS.iconst Xp53.here hx rfl (hb hby at_30) k) ?_
  refine Goes.step (S' := T53.setTop (mkF m 33 #[.val (.int p1), .val (.int p2), .unset, .unset] [(.int (123 : Int32)), (.int (5 : Int32)), (.ref a1), (.ref a1)])) (fun t k => XS.bipush Xp53.here hx rfl (hb hby at_31) k) ?_
  obtain ⟨cl, Ar, Sz, Hs⟩ := V5
  obtain ⟨T54, h54, X54, e54, W54, st54⟩ := stI Xp53 hx hZ e53 Ar (j := (5 : Int32)) (by rw [Sz]; decide) (g := (mkF m 33 #[.val (.int p1), .val (.int p2), .unset, .unset] [(.int (123 : Int32)), (.int (5 : Int32)), (.ref a1), (.ref a1)])) rfl rfl (hb hby at_33)
  have V6 : own_arr Z h54 a1 6 := own_arr_put Ar Sz Hs W54 rfl rfl (by decide)
  have N54 := Fr.snoc X54 Np53 ga
  refine Goes.step (S' := T54.setTop (mkF m 34 #[.val (.int p1), .val (.int p2), .unset, .unset] [(.ref a1)])) (fun t k => st54 t k) ?_
  obtain ⟨Lp54, Xp54, Np54⟩ : ∃ L, Stand p l e room_1 s m #[(.int p1), (.int p2)] below meth c T54 L 1 30 ∧ Fr n0 L := ⟨_, X54, N54⟩
  clear X54 N54 st54 W54 Ar Sz Hs
  clear cl
  clear Xp53 Np53 e53
  clear T53 h53 Lp53
  refine Goes.step (S' := T54.setTop (mkF m 35 #[.val (.int p1), .val (.int p2), .unset, .unset] [(.ref a1), (.ref a1)])) (fun t k => XS.dup Xp54.here hx rfl (hb hby at_34) rfl rfl k) ?_
  refine Goes.step (S' := T54.setTop (mkF m 37 #[.val (.int p1), .val (.int p2), .unset, .unset] [(.int (6 : Int32)), (.ref a1), (.ref a1)])) (fun t k => XS.bipush Xp54.here hx rfl (hb hby at_35) k) ?_
  refine Goes.step (S' := T54.setTop (mkF m 40 #[.val (.int p1), .val (.int p2), .unset, .unset] [(.int (192 : Int32)), (.int (6 : Int32)), (.ref a1), (.ref a1)])) (fun t k => XS.sipush Xp54.here hx rfl (hb hby at_37) k) ?_
  obtain ⟨cl, Ar, Sz, Hs⟩ := V6
  obtain ⟨T55, h55, X55, e55, W55, st55⟩ := stI Xp54 hx hZ e54 Ar (j := (6 : Int32)) (by rw [Sz]; decide) (g := (mkF m 40 #[.val (.int p1), .val (.int p2), .unset, .unset] [(.int (192 : Int32)), (.int (6 : Int32)), (.ref a1), (.ref a1)])) rfl rfl (hb hby at_40)
  have V7 : own_arr Z h55 a1 7 := own_arr_put Ar Sz Hs W55 rfl rfl (by decide)
  have N55 := Fr.snoc X55 Np54 ga
  refine Goes.step (S' := T55.setTop (mkF m 41 #[.val (.int p1), .val (.int p2), .unset, .unset] [(.ref a1)])) (fun t k => st55 t k) ?_
  obtain ⟨Lp55, Xp55, Np55⟩ : ∃ L, Stand p l e room_1 s m #[(.int p1), (.int p2)] below meth c T55 L 1 30 ∧ Fr n0 L := ⟨_, X55, N55⟩
  clear X55 N55 st55 W55 Ar Sz Hs
  clear cl
  clear Xp54 Np54 e54
  clear T54 h54 Lp54
  refine Goes.step (S' := T55.setTop (mkF m 42 #[.val (.int p1), .val (.int p2), .unset, .unset] [(.ref a1), (.ref a1)])) (fun t k => XS.dup Xp55.here hx rfl (hb hby at_41) rfl rfl k) ?_
  refine Goes.step (S' := T55.setTop (mkF m 44 #[.val (.int p1), .val (.int p2), .unset, .unset] [(.int (7 : Int32)), (.ref a1), (.ref a1)])) (fun t k => XS.bipush Xp55.here hx rfl (hb hby at_42) k) ?_
  refine Goes.step (S' := T55.setTop (mkF m 47 #[.val (.int p1), .val (.int p2), .unset, .unset] [(.int (215 : Int32)), (.int (7 : Int32)), (.ref a1), (.ref a1)])) (fun t k => XS.sipush Xp55.here hx rfl (hb hby at_44) k) ?_
  obtain ⟨cl, Ar, Sz, Hs⟩ := V7
  obtain ⟨T56, h56, X56, e56, W56, st56⟩ := stI Xp55 hx hZ e55 Ar (j := (7 : Int32)) (by rw [Sz]; decide) (g := (mkF m 47 #[.val (.int p1), .val (.int p2), .unset, .unset] [(.int (215 : Int32)), (.int (7 : Int32)), (.ref a1), (.ref a1)])) rfl rfl (hb hby at_47)
  have V8 : own_arr Z h56 a1 8 := own_arr_put Ar Sz Hs W56 rfl rfl (by decide)
  have N56 := Fr.snoc X56 Np55 ga
  refine Goes.step (S' := T56.setTop (mkF m 48 #[.val (.int p1), .val (.int p2), .unset, .unset] [(.ref a1)])) (fun t k => st56 t k) ?_
  obtain ⟨Lp56, Xp56, Np56⟩ : ∃ L, Stand p l e room_1 s m #[(.int p1), (.int p2)] below meth c T56 L 1 30 ∧ Fr n0 L := ⟨_, X56, N56⟩
  clear X56 N56 st56 W56 Ar Sz Hs
  clear cl
  clear Xp55 Np55 e55
  clear T55 h55 Lp55
  refine Goes.step (S' := T56.setTop (mkF m 49 #[.val (.int p1), .val (.int p2), .unset, .unset] [(.ref a1), (.ref a1)])) (fun t k => XS.dup Xp56.here hx rfl (hb hby at_48) rfl rfl k) ?_
  refine Goes.step (S' := T56.setTop (mkF m 51 #[.val (.int p1), .val (.int p2), .unset, .unset] [(.int (8 : Int32)), (.ref a1), (.ref a1)])) (fun t k => XS.bipush Xp56.here hx rfl (hb hby at_49) k) ?_
  refine Goes.step (S' := T56.setTop (mkF m 54 #[.val (.int p1), .val (.int p2), .unset, .unset] [(.int (216 : Int32)), (.int (8 : Int32)), (.ref a1), (.ref a1)])) (fun t k => XS.sipush Xp56.here hx rfl (hb hby at_51) k) ?_
  obtain ⟨cl, Ar, Sz, Hs⟩ := V8
  obtain ⟨T57, h57, X57, e57, W57, st57⟩ := stI Xp56 hx hZ e56 Ar (j := (8 : Int32)) (by rw [Sz]; decide) (g := (mkF m 54 #[.val (.int p1), .val (.int p2), .unset, .unset] [(.int (216 : Int32)), (.int (8 : Int32)), (.ref a1), (.ref a1)])) rfl rfl (hb hby at_54)
  have V9 : own_arr Z h57 a1 9 := own_arr_put Ar Sz Hs W57 rfl rfl (by decide)
  have N57 := Fr.snoc X57 Np56 ga
  refine Goes.step (S' := T57.setTop (mkF m 55 #[.val (.int p1), .val (.int p2), .unset, .unset] [(.ref a1)])) (fun t k => st57 t k) ?_
  obtain ⟨Lp57, Xp57, Np57⟩ : ∃ L, Stand p l e room_1 s m #[(.int p1), (.int p2)] below meth c T57 L 1 30 ∧ Fr n0 L := ⟨_, X57, N57⟩
  clear X57 N57 st57 W57 Ar Sz Hs
  clear cl
  clear Xp56 Np56 e56
  clear T56 h56 Lp56
  refine Goes.step (S' := T57.setTop (mkF m 56 #[.val (.int p1), .val (.int p2), .unset, .unset] [(.ref a1), (.ref a1)])) (fun t k => XS.dup Xp57.here hx rfl (hb hby at_55) rfl rfl k) ?_
  refine Goes.step (S' := T57.setTop (mkF m 58 #[.val (.int p1), .val (.int p2), .unset, .unset] [(.int (9 : Int32)), (.ref a1), (.ref a1)])) (fun t k => XS.bipush Xp57.here hx rfl (hb hby at_56) k) ?_
  refine Goes.step (S' := T57.setTop (mkF m 61 #[.val (.int p1), .val (.int p2), .unset, .unset] [(.int (247 : Int32)), (.int (9 : Int32)), (.ref a1), (.ref a1)])) (fun t k => XS.sipush Xp57.here hx rfl (hb hby at_58) k) ?_
  obtain ⟨cl, Ar, Sz, Hs⟩ := V9
  obtain ⟨T58, h58, X58, e58, W58, st58⟩ := stI Xp57 hx hZ e57 Ar (j := (9 : Int32)) (by rw [Sz]; decide) (g := (mkF m 61 #[.val (.int p1), .val (.int p2), .unset, .unset] [(.int (247 : Int32)), (.int (9 : Int32)), (.ref a1), (.ref a1)])) rfl rfl (hb hby at_61)
  have V10 : own_arr Z h58 a1 10 := own_arr_put Ar Sz Hs W58 rfl rfl (by decide)
  have N58 := Fr.snoc X58 Np57 ga
  refine Goes.step (S' := T58.setTop (mkF m 62 #[.val (.int p1), .val (.int p2), .unset, .unset] [(.ref a1)])) (fun t k => st58 t k) ?_
  obtain ⟨Lp58, Xp58, Np58⟩ : ∃ L, Stand p l e room_1 s m #[(.int p1), (.int p2)] below meth c T58 L 1 30 ∧ Fr n0 L := ⟨_, X58, N58⟩
  clear X58 N58 st58 W58 Ar Sz Hs
  clear cl
  clear Xp57 Np57 e57
  clear T57 h57 Lp57
  refine Goes.step (S' := T58.setTop (mkF m 63 #[.val (.int p1), .val (.int p2), .unset, .unset] [(.ref a1), (.ref a1)])) (fun t k => XS.dup Xp58.here hx rfl (hb hby at_62) rfl rfl k) ?_
  refine Goes.step (S' := T58.setTop (mkF m 65 #[.val (.int p1), .val (.int p2), .unset, .unset] [(.int (10 : Int32)), (.ref a1), (.ref a1)])) (fun t k => XS.bipush Xp58.here hx rfl (hb hby at_63) k) ?_
  refine Goes.step (S' := T58.setTop (mkF m 68 #[.val (.int p1), .val (.int p2), .unset, .unset] [(.int (248 : Int32)), (.int (10 : Int32)), (.ref a1), (.ref a1)])) (fun t k => XS.sipush Xp58.here hx rfl (hb hby at_65) k) ?_
  obtain ⟨cl, Ar, Sz, Hs⟩ := V10
  obtain ⟨T59, h59, X59, e59, W59, st59⟩ := stI Xp58 hx hZ e58 Ar (j := (10 : Int32)) (by rw [Sz]; decide) (g := (mkF m 68 #[.val (.int p1), .val (.int p2), .unset, .unset] [(.int (248 : Int32)), (.int (10 : Int32)), (.ref a1), (.ref a1)])) rfl rfl (hb hby at_68)
  have V11 : own_arr Z h59 a1 11 := own_arr_put Ar Sz Hs W59 rfl rfl (by decide)
  have N59 := Fr.snoc X59 Np58 ga
  refine Goes.step (S' := T59.setTop (mkF m 69 #[.val (.int p1), .val (.int p2), .unset, .unset] [(.ref a1)])) (fun t k => st59 t k) ?_
  obtain ⟨Lp59, Xp59, Np59⟩ : ∃ L, Stand p l e room_1 s m #[(.int p1), (.int p2)] below meth c T59 L 1 30 ∧ Fr n0 L := ⟨_, X59, N59⟩
  clear X59 N59 st59 W59 Ar Sz Hs
  clear cl
  clear Xp58 Np58 e58
  clear T58 h58 Lp58
  refine Goes.step (S' := T59.setTop (mkF m 70 #[.val (.int p1), .val (.int p2), .unset, .unset] [(.ref a1), (.ref a1)])) (fun t k => XS.dup Xp59.here hx rfl (hb hby at_69) rfl rfl k) ?_
  refine Goes.step (S' := T59.setTop (mkF m 72 #[.val (.int p1), .val (.int p2), .unset, .unset] [(.int (11 : Int32)), (.ref a1), (.ref a1)])) (fun t k => XS.bipush Xp59.here hx rfl (hb hby at_70) k) ?_
  refine Goes.step (S' := T59.setTop (mkF m 75 #[.val (.int p1), .val (.int p2), .unset, .unset] [(.int (768 : Int32)), (.int (11 : Int32)), (.ref a1), (.ref a1)])) (fun t k => XS.sipush Xp59.here hx rfl (hb hby at_72) k) ?_
  obtain ⟨cl, Ar, Sz, Hs⟩ := V11
  obtain ⟨T60, h60, X60, e60, W60, st60⟩ := stI Xp59 hx hZ e59 Ar (j := (11 : Int32)) (by rw [Sz]; decide) (g := (mkF m 75 #[.val (.int p1), .val (.int p2), .unset, .unset] [(.int (768 : Int32)), (.int (11 : Int32)), (.ref a1), (.ref a1)])) rfl rfl (hb hby at_75)
  have V12 : own_arr Z h60 a1 12 := own_arr_put Ar Sz Hs W60 rfl rfl (by decide)
  have N60 := Fr.snoc X60 Np59 ga
  refine Goes.step (S' := T60.setTop (mkF m 76 #[.val (.int p1), .val (.int p2), .unset, .unset] [(.ref a1)])) (fun t k => st60 t k) ?_
  obtain ⟨Lp60, Xp60, Np60⟩ : ∃ L, Stand p l e room_1 s m #[(.int p1), (.int p2)] below meth c T60 L 1 30 ∧ Fr n0 L := ⟨_, X60, N60⟩
  clear X60 N60 st60 W60 Ar Sz Hs
  clear cl
  clear Xp59 Np59 e59
  clear T59 h59 Lp59
  refine Goes.step (S' := T60.setTop (mkF m 77 #[.val (.int p1), .val (.int p2), .unset, .unset] [(.ref a1), (.ref a1)])) (fun t k => XS.dup Xp60.here hx rfl (hb hby at_76) rfl rfl k) ?_
  refine Goes.step (S' := T60.setTop (mkF m 79 #[.val (.int p1), .val (.int p2), .unset, .unset] [(.int (12 : Int32)), (.ref a1), (.ref a1)])) (fun t k => XS.bipush Xp60.here hx rfl (hb hby at_77) k) ?_
  refine Goes.step (S' := T60.setTop (mkF m 82 #[.val (.int p1), .val (.int p2), .unset, .unset] [(.int (880 : Int32)), (.int (12 : Int32)), (.ref a1), (.ref a1)])) (fun t k => XS.sipush Xp60.here hx rfl (hb hby at_79) k) ?_
  obtain ⟨cl, Ar, Sz, Hs⟩ := V12
  obtain ⟨T61, h61, X61, e61, W61, st61⟩ := stI Xp60 hx hZ e60 Ar (j := (12 : Int32)) (by rw [Sz]; decide) (g := (mkF m 82 #[.val (.int p1), .val (.int p2), .unset, .unset] [(.int (880 : Int32)), (.int (12 : Int32)), (.ref a1), (.ref a1)])) rfl rfl (hb hby at_82)
  have V13 : own_arr Z h61 a1 13 := own_arr_put Ar Sz Hs W61 rfl rfl (by decide)
  have N61 := Fr.snoc X61 Np60 ga
  refine Goes.step (S' := T61.setTop (mkF m 83 #[.val (.int p1), .val (.int p2), .unset, .unset] [(.ref a1)])) (fun t k => st61 t k) ?_
  obtain ⟨Lp61, Xp61, Np61⟩ : ∃ L, Stand p l e room_1 s m #[(.int p1), (.int p2)] below meth c T61 L 1 30 ∧ Fr n0 L := ⟨_, X61, N61⟩
  clear X61 N61 st61 W61 Ar Sz Hs
  clear cl
  clear Xp60 Np60 e60
  clear T60 h60 Lp60
  refine Goes.step (S' := T61.setTop (mkF m 84 #[.val (.int p1), .val (.int p2), .unset, .unset] [(.ref a1), (.ref a1)])) (fun t k => XS.dup Xp61.here hx rfl (hb hby at_83) rfl rfl k) ?_
  refine Goes.step (S' := T61.setTop (mkF m 86 #[.val (.int p1), .val (.int p2), .unset, .unset] [(.int (13 : Int32)), (.ref a1), (.ref a1)])) (fun t k => XS.bipush Xp61.here hx rfl (hb hby at_84) k) ?_
  refine Goes.step (S' := T61.setTop (mkF m 89 #[.val (.int p1), .val (.int p2), .unset, .unset] [(.int (894 : Int32)), (.int (13 : Int32)), (.ref a1), (.ref a1)])) (fun t k => XS.sipush Xp61.here hx rfl (hb hby at_86) k) ?_
  obtain ⟨cl, Ar, Sz, Hs⟩ := V13
  obtain ⟨T62, h62, X62, e62, W62, st62⟩ := stI Xp61 hx hZ e61 Ar (j := (13 : Int32)) (by rw [Sz]; decide) (g := (mkF m 89 #[.val (.int p1), .val (.int p2), .unset, .unset] [(.int (894 : Int32)), (.int (13 : Int32)), (.ref a1), (.ref a1)])) rfl rfl (hb hby at_89)
  have V14 : own_arr Z h62 a1 14 := own_arr_put Ar Sz Hs W62 rfl rfl (by decide)
  have N62 := Fr.snoc X62 Np61 ga
  refine Goes.step (S' := T62.setTop (mkF m 90 #[.val (.int p1), .val (.int p2), .unset, .unset] [(.ref a1)])) (fun t k => st62 t k) ?_
  obtain ⟨Lp62, Xp62, Np62⟩ : ∃ L, Stand p l e room_1 s m #[(.int p1), (.int p2)] below meth c T62 L 1 30 ∧ Fr n0 L := ⟨_, X62, N62⟩
  clear X62 N62 st62 W62 Ar Sz Hs
  clear cl
  clear Xp61 Np61 e61
  clear T61 h61 Lp61
  refine Goes.step (S' := T62.setTop (mkF m 91 #[.val (.int p1), .val (.int p2), .unset, .unset] [(.ref a1), (.ref a1)])) (fun t k => XS.dup Xp62.here hx rfl (hb hby at_90) rfl rfl k) ?_
  refine Goes.step (S' := T62.setTop (mkF m 93 #[.val (.int p1), .val (.int p2), .unset, .unset] [(.int (14 : Int32)), (.ref a1), (.ref a1)])) (fun t k => XS.bipush Xp62.here hx rfl (hb hby at_91) k) ?_
  refine Goes.step (S' := T62.setTop (mkF m 96 #[.val (.int p1), .val (.int p2), .unset, .unset] [(.int (895 : Int32)), (.int (14 : Int32)), (.ref a1), (.ref a1)])) (fun t k => XS.sipush Xp62.here hx rfl (hb hby at_93) k) ?_
  obtain ⟨cl, Ar, Sz, Hs⟩ := V14
  obtain ⟨T63, h63, X63, e63, W63, st63⟩ := stI Xp62 hx hZ e62 Ar (j := (14 : Int32)) (by rw [Sz]; decide) (g := (mkF m 96 #[.val (.int p1), .val (.int p2), .unset, .unset] [(.int (895 : Int32)), (.int (14 : Int32)), (.ref a1), (.ref a1)])) rfl rfl (hb hby at_96)
  have V15 : own_arr Z h63 a1 15 := own_arr_put Ar Sz Hs W63 rfl rfl (by decide)
  have N63 := Fr.snoc X63 Np62 ga
  refine Goes.step (S' := T63.setTop (mkF m 97 #[.val (.int p1), .val (.int p2), .unset, .unset] [(.ref a1)])) (fun t k => st63 t k) ?_
  obtain ⟨Lp63, Xp63, Np63⟩ : ∃ L, Stand p l e room_1 s m #[(.int p1), (.int p2)] below meth c T63 L 1 30 ∧ Fr n0 L := ⟨_, X63, N63⟩
  clear X63 N63 st63 W63 Ar Sz Hs
  clear cl
  clear Xp62 Np62 e62
  clear T62 h62 Lp62
  refine Goes.step (S' := T63.setTop (mkF m 98 #[.val (.int p1), .val (.int p2), .unset, .unset] [(.ref a1), (.ref a1)])) (fun t k => XS.dup Xp63.here hx rfl (hb hby at_97) rfl rfl k) ?_
  refine Goes.step (S' := T63.setTop (mkF m 100 #[.val (.int p1), .val (.int p2), .unset, .unset] [(.int (15 : Int32)), (.ref a1), (.ref a1)])) (fun t k => XS.bipush Xp63.here hx rfl (hb hby at_98) k) ?_
  refine Goes.step (S' := T63.setTop (mkF m 103 #[.val (.int p1), .val (.int p2), .unset, .unset] [(.int (8192 : Int32)), (.int (15 : Int32)), (.ref a1), (.ref a1)])) (fun t k => XS.sipush Xp63.here hx rfl (hb hby at_100) k) ?_
  obtain ⟨cl, Ar, Sz, Hs⟩ := V15
  obtain ⟨T64, h64, X64, e64, W64, st64⟩ := stI Xp63 hx hZ e63 Ar (j := (15 : Int32)) (by rw [Sz]; decide) (g := (mkF m 103 #[.val (.int p1), .val (.int p2), .unset, .unset] [(.int (8192 : Int32)), (.int (15 : Int32)), (.ref a1), (.ref a1)])) rfl rfl (hb hby at_103)
  have V16 : own_arr Z h64 a1 16 := own_arr_put Ar Sz Hs W64 rfl rfl (by decide)
  have N64 := Fr.snoc X64 Np63 ga
  refine Goes.step (S' := T64.setTop (mkF m 104 #[.val (.int p1), .val (.int p2), .unset, .unset] [(.ref a1)])) (fun t k => st64 t k) ?_
  obtain ⟨Lp64, Xp64, Np64⟩ : ∃ L, Stand p l e room_1 s m #[(.int p1), (.int p2)] below meth c T64 L 1 30 ∧ Fr n0 L := ⟨_, X64, N64⟩
  clear X64 N64 st64 W64 Ar Sz Hs
  clear cl
  clear Xp63 Np63 e63
  clear T63 h63 Lp63
  refine Goes.step (S' := T64.setTop (mkF m 105 #[.val (.int p1), .val (.int p2), .unset, .unset] [(.ref a1), (.ref a1)])) (fun t k => XS.dup Xp64.here hx rfl (hb hby at_104) rfl rfl k) ?_
  refine Goes.step (S' := T64.setTop (mkF m 107 #[.val (.int p1), .val (.int p2), .unset, .unset] [(.int (16 : Int32)), (.ref a1), (.ref a1)])) (fun t k => XS.bipush Xp64.here hx rfl (hb hby at_105) k) ?_
  refine Goes.step (S' := T64.setTop (mkF m 110 #[.val (.int p1), .val (.int p2), .unset, .unset] [(.int (8204 : Int32)), (.int (16 : Int32)), (.ref a1), (.ref a1)])) (fun t k => XS.sipush Xp64.here hx rfl (hb hby at_107) k) ?_
  obtain ⟨cl, Ar, Sz, Hs⟩ := V16
  obtain ⟨T65, h65, X65, e65, W65, st65⟩ := stI Xp64 hx hZ e64 Ar (j := (16 : Int32)) (by rw [Sz]; decide) (g := (mkF m 110 #[.val (.int p1), .val (.int p2), .unset, .unset] [(.int (8204 : Int32)), (.int (16 : Int32)), (.ref a1), (.ref a1)])) rfl rfl (hb hby at_110)
  have V17 : own_arr Z h65 a1 17 := own_arr_put Ar Sz Hs W65 rfl rfl (by decide)
  have N65 := Fr.snoc X65 Np64 ga
  refine Goes.step (S' := T65.setTop (mkF m 111 #[.val (.int p1), .val (.int p2), .unset, .unset] [(.ref a1)])) (fun t k => st65 t k) ?_
  obtain ⟨Lp65, Xp65, Np65⟩ : ∃ L, Stand p l e room_1 s m #[(.int p1), (.int p2)] below meth c T65 L 1 30 ∧ Fr n0 L := ⟨_, X65, N65⟩
  clear X65 N65 st65 W65 Ar Sz Hs
  clear cl
  clear Xp64 Np64 e64
  clear T64 h64 Lp64
  refine Goes.step (S' := T65.setTop (mkF m 112 #[.val (.int p1), .val (.int p2), .unset, .unset] [(.ref a1), (.ref a1)])) (fun t k => XS.dup Xp65.here hx rfl (hb hby at_111) rfl rfl k) ?_
  refine Goes.step (S' := T65.setTop (mkF m 114 #[.val (.int p1), .val (.int p2), .unset, .unset] [(.int (17 : Int32)), (.ref a1), (.ref a1)])) (fun t k => XS.bipush Xp65.here hx rfl (hb hby at_112) k) ?_
  refine Goes.step (S' := T65.setTop (mkF m 117 #[.val (.int p1), .val (.int p2), .unset, .unset] [(.int (8206 : Int32)), (.int (17 : Int32)), (.ref a1), (.ref a1)])) (fun t k => XS.sipush Xp65.here hx rfl (hb hby at_114) k) ?_
  obtain ⟨cl, Ar, Sz, Hs⟩ := V17
  obtain ⟨T66, h66, X66, e66, W66, st66⟩ := stI Xp65 hx hZ e65 Ar (j := (17 : Int32)) (by rw [Sz]; decide) (g := (mkF m 117 #[.val (.int p1), .val (.int p2), .unset, .unset] [(.int (8206 : Int32)), (.int (17 : Int32)), (.ref a1), (.ref a1)])) rfl rfl (hb hby at_117)
  have V18 : own_arr Z h66 a1 18 := own_arr_put Ar Sz Hs W66 rfl rfl (by decide)
  have N66 := Fr.snoc X66 Np65 ga
  refine Goes.step (S' := T66.setTop (mkF m 118 #[.val (.int p1), .val (.int p2), .unset, .unset] [(.ref a1)])) (fun t k => st66 t k) ?_
  obtain ⟨Lp66, Xp66, Np66⟩ : ∃ L, Stand p l e room_1 s m #[(.int p1), (.int p2)] below meth c T66 L 1 30 ∧ Fr n0 L := ⟨_, X66, N66⟩
  clear X66 N66 st66 W66 Ar Sz Hs
  clear cl
  clear Xp65 Np65 e65
  clear T65 h65 Lp65
  refine Goes.step (S' := T66.setTop (mkF m 119 #[.val (.int p1), .val (.int p2), .unset, .unset] [(.ref a1), (.ref a1)])) (fun t k => XS.dup Xp66.here hx rfl (hb hby at_118) rfl rfl k) ?_
  refine Goes.step (S' := T66.setTop (mkF m 121 #[.val (.int p1), .val (.int p2), .unset, .unset] [(.int (18 : Int32)), (.ref a1), (.ref a1)])) (fun t k => XS.bipush Xp66.here hx rfl (hb hby at_119) k) ?_
  refine Goes.step (S' := T66.setTop (mkF m 124 #[.val (.int p1), .val (.int p2), .unset, .unset] [(.int (8304 : Int32)), (.int (18 : Int32)), (.ref a1), (.ref a1)])) (fun t k => XS.sipush Xp66.here hx rfl (hb hby at_121) k) ?_
  obtain ⟨cl, Ar, Sz, Hs⟩ := V18
  obtain ⟨T67, h67, X67, e67, W67, st67⟩ := stI Xp66 hx hZ e66 Ar (j := (18 : Int32)) (by rw [Sz]; decide) (g := (mkF m 124 #[.val (.int p1), .val (.int p2), .unset, .unset] [(.int (8304 : Int32)), (.int (18 : Int32)), (.ref a1), (.ref a1)])) rfl rfl (hb hby at_124)
  have V19 : own_arr Z h67 a1 19 := own_arr_put Ar Sz Hs W67 rfl rfl (by decide)
  have N67 := Fr.snoc X67 Np66 ga
  refine Goes.step (S' := T67.setTop (mkF m 125 #[.val (.int p1), .val (.int p2), .unset, .unset] [(.ref a1)])) (fun t k => st67 t k) ?_
  obtain ⟨Lp67, Xp67, Np67⟩ : ∃ L, Stand p l e room_1 s m #[(.int p1), (.int p2)] below meth c T67 L 1 30 ∧ Fr n0 L := ⟨_, X67, N67⟩
  clear X67 N67 st67 W67 Ar Sz Hs
  clear cl
  clear Xp66 Np66 e66
  clear T66 h66 Lp66
  refine Goes.step (S' := T67.setTop (mkF m 126 #[.val (.int p1), .val (.int p2), .unset, .unset] [(.ref a1), (.ref a1)])) (fun t k => XS.dup Xp67.here hx rfl (hb hby at_125) rfl rfl k) ?_
  refine Goes.step (S' := T67.setTop (mkF m 128 #[.val (.int p1), .val (.int p2), .unset, .unset] [(.int (19 : Int32)), (.ref a1), (.ref a1)])) (fun t k => XS.bipush Xp67.here hx rfl (hb hby at_126) k) ?_
  refine Goes.step (S' := T67.setTop (mkF m 131 #[.val (.int p1), .val (.int p2), .unset, .unset] [(.int (8592 : Int32)), (.int (19 : Int32)), (.ref a1), (.ref a1)])) (fun t k => XS.sipush Xp67.here hx rfl (hb hby at_128) k) ?_
  obtain ⟨cl, Ar, Sz, Hs⟩ := V19
  obtain ⟨T68, h68, X68, e68, W68, st68⟩ := stI Xp67 hx hZ e67 Ar (j := (19 : Int32)) (by rw [Sz]; decide) (g := (mkF m 131 #[.val (.int p1), .val (.int p2), .unset, .unset] [(.int (8592 : Int32)), (.int (19 : Int32)), (.ref a1), (.ref a1)])) rfl rfl (hb hby at_131)
  have V20 : own_arr Z h68 a1 20 := own_arr_put Ar Sz Hs W68 rfl rfl (by decide)
  have N68 := Fr.snoc X68 Np67 ga
  refine Goes.step (S' := T68.setTop (mkF m 132 #[.val (.int p1), .val (.int p2), .unset, .unset] [(.ref a1)])) (fun t k => st68 t k) ?_
  obtain ⟨Lp68, Xp68, Np68⟩ : ∃ L, Stand p l e room_1 s m #[(.int p1), (.int p2)] below meth c T68 L 1 30 ∧ Fr n0 L := ⟨_, X68, N68⟩
  clear X68 N68 st68 W68 Ar Sz Hs
  clear cl
  clear Xp67 Np67 e67
  clear T67 h67 Lp67
  refine Goes.step (S' := T68.setTop (mkF m 133 #[.val (.int p1), .val (.int p2), .unset, .unset] [(.ref a1), (.ref a1)])) (fun t k => XS.dup Xp68.here hx rfl (hb hby at_132) rfl rfl k) ?_
  refine Goes.step (S' := T68.setTop (mkF m 135 #[.val (.int p1), .val (.int p2), .unset, .unset] [(.int (20 : Int32)), (.ref a1), (.ref a1)])) (fun t k => XS.bipush Xp68.here hx rfl (hb hby at_133) k) ?_
  refine Goes.step (S' := T68.setTop (mkF m 138 #[.val (.int p1), .val (.int p2), .unset, .unset] [(.int (11264 : Int32)), (.int (20 : Int32)), (.ref a1), (.ref a1)])) (fun t k => XS.sipush Xp68.here hx rfl (hb hby at_135) k) ?_
  obtain ⟨cl, Ar, Sz, Hs⟩ := V20
  obtain ⟨T69, h69, X69, e69, W69, st69⟩ := stI Xp68 hx hZ e68 Ar (j := (20 : Int32)) (by rw [Sz]; decide) (g := (mkF m 138 #[.val (.int p1), .val (.int p2), .unset, .unset] [(.int (11264 : Int32)), (.int (20 : Int32)), (.ref a1), (.ref a1)])) rfl rfl (hb hby at_138)
  have V21 : own_arr Z h69 a1 21 := own_arr_put Ar Sz Hs W69 rfl rfl (by decide)
  have N69 := Fr.snoc X69 Np68 ga
  refine Goes.step (S' := T69.setTop (mkF m 139 #[.val (.int p1), .val (.int p2), .unset, .unset] [(.ref a1)])) (fun t k => st69 t k) ?_
  obtain ⟨Lp69, Xp69, Np69⟩ : ∃ L, Stand p l e room_1 s m #[(.int p1), (.int p2)] below meth c T69 L 1 30 ∧ Fr n0 L := ⟨_, X69, N69⟩
  clear X69 N69 st69 W69 Ar Sz Hs
  clear cl
  clear Xp68 Np68 e68
  clear T68 h68 Lp68
  refine Goes.step (S' := T69.setTop (mkF m 140 #[.val (.int p1), .val (.int p2), .unset, .unset] [(.ref a1), (.ref a1)])) (fun t k => XS.dup Xp69.here hx rfl (hb hby at_139) rfl rfl k) ?_
  refine Goes.step (S' := T69.setTop (mkF m 142 #[.val (.int p1), .val (.int p2), .unset, .unset] [(.int (21 : Int32)), (.ref a1), (.ref a1)])) (fun t k => XS.bipush Xp69.here hx rfl (hb hby at_140) k) ?_
  refine Goes.step (S' := T69.setTop (mkF m 145 #[.val (.int p1), .val (.int p2), .unset, .unset] [(.int (12272 : Int32)), (.int (21 : Int32)), (.ref a1), (.ref a1)])) (fun t k => XS.sipush Xp69.here hx rfl (hb hby at_142) k) ?_
  obtain ⟨cl, Ar, Sz, Hs⟩ := V21
  obtain ⟨T70, h70, X70, e70, W70, st70⟩ := stI Xp69 hx hZ e69 Ar (j := (21 : Int32)) (by rw [Sz]; decide) (g := (mkF m 145 #[.val (.int p1), .val (.int p2), .unset, .unset] [(.int (12272 : Int32)), (.int (21 : Int32)), (.ref a1), (.ref a1)])) rfl rfl (hb hby at_145)
  have V22 : own_arr Z h70 a1 22 := own_arr_put Ar Sz Hs W70 rfl rfl (by decide)
  have N70 := Fr.snoc X70 Np69 ga
  refine Goes.step (S' := T70.setTop (mkF m 146 #[.val (.int p1), .val (.int p2), .unset, .unset] [(.ref a1)])) (fun t k => st70 t k) ?_
  obtain ⟨Lp70, Xp70, Np70⟩ : ∃ L, Stand p l e room_1 s m #[(.int p1), (.int p2)] below meth c T70 L 1 30 ∧ Fr n0 L := ⟨_, X70, N70⟩
  clear X70 N70 st70 W70 Ar Sz Hs
  clear cl
  clear Xp69 Np69 e69
  clear T69 h69 Lp69
  refine Goes.step (S' := T70.setTop (mkF m 147 #[.val (.int p1), .val (.int p2), .unset, .unset] [(.ref a1), (.ref a1)])) (fun t k => XS.dup Xp70.here hx rfl (hb hby at_146) rfl rfl k) ?_
  refine Goes.step (S' := T70.setTop (mkF m 149 #[.val (.int p1), .val (.int p2), .unset, .unset] [(.int (22 : Int32)), (.ref a1), (.ref a1)])) (fun t k => XS.bipush Xp70.here hx rfl (hb hby at_147) k) ?_
  refine Goes.step (S' := T70.setTop (mkF m 152 #[.val (.int p1), .val (.int p2), .unset, .unset] [(.int (12289 : Int32)), (.int (22 : Int32)), (.ref a1), (.ref a1)])) (fun t k => XS.sipush Xp70.here hx rfl (hb hby at_149) k) ?_
  obtain ⟨cl, Ar, Sz, Hs⟩ := V22
  obtain ⟨T71, h71, X71, e71, W71, st71⟩ := stI Xp70 hx hZ e70 Ar (j := (22 : Int32)) (by rw [Sz]; decide) (g := (mkF m 152 #[.val (.int p1), .val (.int p2), .unset, .unset] [(.int (12289 : Int32)), (.int (22 : Int32)), (.ref a1), (.ref a1)])) rfl rfl (hb hby at_152)
  have V23 : own_arr Z h71 a1 23 := own_arr_put Ar Sz Hs W71 rfl rfl (by decide)
  have N71 := Fr.snoc X71 Np70 ga
  refine Goes.step (S' := T71.setTop (mkF m 153 #[.val (.int p1), .val (.int p2), .unset, .unset] [(.ref a1)])) (fun t k => st71 t k) ?_
  obtain ⟨Lp71, Xp71, Np71⟩ : ∃ L, Stand p l e room_1 s m #[(.int p1), (.int p2)] below meth c T71 L 1 30 ∧ Fr n0 L := ⟨_, X71, N71⟩
  clear X71 N71 st71 W71 Ar Sz Hs
  clear cl
  clear Xp70 Np70 e70
  clear T70 h70 Lp70
  refine Goes.step (S' := T71.setTop (mkF m 154 #[.val (.int p1), .val (.int p2), .unset, .unset] [(.ref a1), (.ref a1)])) (fun t k => XS.dup Xp71.here hx rfl (hb hby at_153) rfl rfl k) ?_
  refine Goes.step (S' := T71.setTop (mkF m 156 #[.val (.int p1), .val (.int p2), .unset, .unset] [(.int (23 : Int32)), (.ref a1), (.ref a1)])) (fun t k => XS.bipush Xp71.here hx rfl (hb hby at_154) k) ?_
  refine Goes.step (S' := T71.setTop (mkF m 158 #[.val (.int p1), .val (.int p2), .unset, .unset] [(.int (55296 : Int32)), (.int (23 : Int32)), (.ref a1), (.ref a1)])) (fun t k => Xp71.ldcInt hx hown (mvT hZ (hw _ (List.mem_of_getElem? (i := 1) rfl))) (g := (mkF m 156 #[.val (.int p1), .val (.int p2), .unset, .unset] [(.int (23 : Int32)), (.ref a1), (.ref a1)])) rfl (hb hby at_156) _ k) ?_
  obtain ⟨cl, Ar, Sz, Hs⟩ := V23
  obtain ⟨T72, h72, X72, e72, W72, st72⟩ := stI Xp71 hx hZ e71 Ar (j := (23 : Int32)) (by rw [Sz]; decide) (g := (mkF m 158 #[.val (.int p1), .val (.int p2), .unset, .unset] [(.int (55296 : Int32)), (.int (23 : Int32)), (.ref a1), (.ref a1)])) rfl rfl (hb hby at_158)
  have V24 : own_arr Z h72 a1 24 := own_arr_put Ar Sz Hs W72 rfl rfl (by decide)
  have N72 := Fr.snoc X72 Np71 ga
  refine Goes.step (S' := T72.setTop (mkF m 159 #[.val (.int p1), .val (.int p2), .unset, .unset] [(.ref a1)])) (fun t k => st72 t k) ?_
  obtain ⟨Lp72, Xp72, Np72⟩ : ∃ L, Stand p l e room_1 s m #[(.int p1), (.int p2)] below meth c T72 L 1 30 ∧ Fr n0 L := ⟨_, X72, N72⟩
  clear X72 N72 st72 W72 Ar Sz Hs
  clear cl
  clear Xp71 Np71 e71
  clear T71 h71 Lp71
  refine Goes.step (S' := T72.setTop (mkF m 160 #[.val (.int p1), .val (.int p2), .unset, .unset] [(.ref a1), (.ref a1)])) (fun t k => XS.dup Xp72.here hx rfl (hb hby at_159) rfl rfl k) ?_
  refine Goes.step (S' := T72.setTop (mkF m 162 #[.val (.int p1), .val (.int p2), .unset, .unset] [(.int (24 : Int32)), (.ref a1), (.ref a1)])) (fun t k => XS.bipush Xp72.here hx rfl (hb hby at_160) k) ?_
  refine Goes.step (S' := T72.setTop (mkF m 164 #[.val (.int p1), .val (.int p2), .unset, .unset] [(.int (63744 : Int32)), (.int (24 : Int32)), (.ref a1), (.ref a1)])) (fun t k => Xp72.ldcInt hx hown (mvT hZ (hw _ (List.mem_of_getElem? (i := 2) rfl))) (g := (mkF m 162 #[.val (.int p1), .val (.int p2), .unset, .unset] [(.int (24 : Int32)), (.ref a1), (.ref a1)])) rfl (hb hby at_162) _ k) ?_
  obtain ⟨cl, Ar, Sz, Hs⟩ := V24
  obtain ⟨T73, h73, X73, e73, W73, st73⟩ := stI Xp72 hx hZ e72 Ar (j := (24 : Int32)) (by rw [Sz]; decide) (g := (mkF m 164 #[.val (.int p1), .val (.int p2), .unset, .unset] [(.int (63744 : Int32)), (.int (24 : Int32)), (.ref a1), (.ref a1)])) rfl rfl (hb hby at_164)
  have V25 : own_arr Z h73 a1 25 := own_arr_put Ar Sz Hs W73 rfl rfl (by decide)
  have N73 := Fr.snoc X73 Np72 ga
  refine Goes.step (S' := T73.setTop (mkF m 165 #[.val (.int p1), .val (.int p2), .unset, .unset] [(.ref a1)])) (fun t k => st73 t k) ?_
  obtain ⟨Lp73, Xp73, Np73⟩ : ∃ L, Stand p l e room_1 s m #[(.int p1), (.int p2)] below meth c T73 L 1 30 ∧ Fr n0 L := ⟨_, X73, N73⟩
  clear X73 N73 st73 W73 Ar Sz Hs
  clear cl
  clear Xp72 Np72 e72
  clear T72 h72 Lp72
  refine Goes.step (S' := T73.setTop (mkF m 166 #[.val (.int p1), .val (.int p2), .unset, .unset] [(.ref a1), (.ref a1)])) (fun t k => XS.dup Xp73.here hx rfl (hb hby at_165) rfl rfl k) ?_
  refine Goes.step (S' := T73.setTop (mkF m 168 #[.val (.int p1), .val (.int p2), .unset, .unset] [(.int (25 : Int32)), (.ref a1), (.ref a1)])) (fun t k => XS.bipush Xp73.here hx rfl (hb hby at_166) k) ?_
  refine Goes.step (S' := T73.setTop (mkF m 170 #[.val (.int p1), .val (.int p2), .unset, .unset] [(.int (64976 : Int32)), (.int (25 : Int32)), (.ref a1), (.ref a1)])) (fun t k => Xp73.ldcInt hx hown (mvT hZ (hw _ (List.mem_of_getElem? (i := 3) rfl))) (g := (mkF m 168 #[.val (.int p1), .val (.int p2), .unset, .unset] [(.int (25 : Int32)), (.ref a1), (.ref a1)])) rfl (hb hby at_168) _ k) ?_
  obtain ⟨cl, Ar, Sz, Hs⟩ := V25
  obtain ⟨T74, h74, X74, e74, W74, st74⟩ := stI Xp73 hx hZ e73 Ar (j := (25 : Int32)) (by rw [Sz]; decide) (g := (mkF m 170 #[.val (.int p1), .val (.int p2), .unset, .unset] [(.int (64976 : Int32)), (.int (25 : Int32)), (.ref a1), (.ref a1)])) rfl rfl (hb hby at_170)
  have V26 : own_arr Z h74 a1 26 := own_arr_put Ar Sz Hs W74 rfl rfl (by decide)
  have N74 := Fr.snoc X74 Np73 ga
  refine Goes.step (S' := T74.setTop (mkF m 171 #[.val (.int p1), .val (.int p2), .unset, .unset] [(.ref a1)])) (fun t k => st74 t k) ?_
  obtain ⟨Lp74, Xp74, Np74⟩ : ∃ L, Stand p l e room_1 s m #[(.int p1), (.int p2)] below meth c T74 L 1 30 ∧ Fr n0 L := ⟨_, X74, N74⟩
  clear X74 N74 st74 W74 Ar Sz Hs
  clear cl
  clear Xp73 Np73 e73
  clear T73 h73 Lp73
  refine Goes.step (S' := T74.setTop (mkF m 172 #[.val (.int p1), .val (.int p2), .unset, .unset] [(.ref a1), (.ref a1)])) (fun t k => XS.dup Xp74.here hx rfl (hb hby at_171) rfl rfl k) ?_
  refine Goes.step (S' := T74.setTop (mkF m 174 #[.val (.int p1), .val (.int p2), .unset, .unset] [(.int (26 : Int32)), (.ref a1), (.ref a1)])) (fun t k => XS.bipush Xp74.here hx rfl (hb hby at_172) k) ?_
  refine Goes.step (S' := T74.setTop (mkF m 176 #[.val (.int p1), .val (.int p2), .unset, .unset] [(.int (65008 : Int32)), (.int (26 : Int32)), (.ref a1), (.ref a1)])) (fun t k => Xp74.ldcInt hx hown (mvT hZ (hw _ (List.mem_of_getElem? (i := 4) rfl))) (g := (mkF m 174 #[.val (.int p1), .val (.int p2), .unset, .unset] [(.int (26 : Int32)), (.ref a1), (.ref a1)])) rfl (hb hby at_174) _ k) ?_
  obtain ⟨cl, Ar, Sz, Hs⟩ := V26
  obtain ⟨T75, h75, X75, e75, W75, st75⟩ := stI Xp74 hx hZ e74 Ar (j := (26 : Int32)) (by rw [Sz]; decide) (g := (mkF m 176 #[.val (.int p1), .val (.int p2), .unset, .unset] [(.int (65008 : Int32)), (.int (26 : Int32)), (.ref a1), (.ref a1)])) rfl rfl (hb hby at_176)
  have V27 : own_arr Z h75 a1 27 := own_arr_put Ar Sz Hs W75 rfl rfl (by decide)
  have N75 := Fr.snoc X75 Np74 ga
  refine Goes.step (S' := T75.setTop (mkF m 177 #[.val (.int p1), .val (.int p2), .unset, .unset] [(.ref a1)])) (fun t k => st75 t k) ?_
  obtain ⟨Lp75, Xp75, Np75⟩ : ∃ L, Stand p l e room_1 s m #[(.int p1), (.int p2)] below meth c T75 L 1 30 ∧ Fr n0 L := ⟨_, X75, N75⟩
  clear X75 N75 st75 W75 Ar Sz Hs
  clear cl
  clear Xp74 Np74 e74
  clear T74 h74 Lp74
  refine Goes.step (S' := T75.setTop (mkF m 178 #[.val (.int p1), .val (.int p2), .unset, .unset] [(.ref a1), (.ref a1)])) (fun t k => XS.dup Xp75.here hx rfl (hb hby at_177) rfl rfl k) ?_
  refine Goes.step (S' := T75.setTop (mkF m 180 #[.val (.int p1), .val (.int p2), .unset, .unset] [(.int (27 : Int32)), (.ref a1), (.ref a1)])) (fun t k => XS.bipush Xp75.here hx rfl (hb hby at_178) k) ?_
  refine Goes.step (S' := T75.setTop (mkF m 182 #[.val (.int p1), .val (.int p2), .unset, .unset] [(.int (65534 : Int32)), (.int (27 : Int32)), (.ref a1), (.ref a1)])) (fun t k => Xp75.ldcInt hx hown (mvT hZ (hw _ (List.mem_of_getElem? (i := 5) rfl))) (g := (mkF m 180 #[.val (.int p1), .val (.int p2), .unset, .unset] [(.int (27 : Int32)), (.ref a1), (.ref a1)])) rfl (hb hby at_180) _ k) ?_
  obtain ⟨cl, Ar, Sz, Hs⟩ := V27
  obtain ⟨T76, h76, X76, e76, W76, st76⟩ := stI Xp75 hx hZ e75 Ar (j := (27 : Int32)) (by rw [Sz]; decide) (g := (mkF m 182 #[.val (.int p1), .val (.int p2), .unset, .unset] [(.int (65534 : Int32)), (.int (27 : Int32)), (.ref a1), (.ref a1)])) rfl rfl (hb hby at_182)
  have V28 : own_arr Z h76 a1 28 := own_arr_put Ar Sz Hs W76 rfl rfl (by decide)
  have N76 := Fr.snoc X76 Np75 ga
  refine Goes.step (S' := T76.setTop (mkF m 183 #[.val (.int p1), .val (.int p2), .unset, .unset] [(.ref a1)])) (fun t k => st76 t k) ?_
  obtain ⟨Lp76, Xp76, Np76⟩ : ∃ L, Stand p l e room_1 s m #[(.int p1), (.int p2)] below meth c T76 L 1 30 ∧ Fr n0 L := ⟨_, X76, N76⟩
  clear X76 N76 st76 W76 Ar Sz Hs
  clear cl
  clear Xp75 Np75 e75
  clear T75 h75 Lp75
  refine Goes.step (S' := T76.setTop (mkF m 184 #[.val (.int p1), .val (.int p2), .unset, .unset] [(.ref a1), (.ref a1)])) (fun t k => XS.dup Xp76.here hx rfl (hb hby at_183) rfl rfl k) ?_
  refine Goes.step (S' := T76.setTop (mkF m 186 #[.val (.int p1), .val (.int p2), .unset, .unset] [(.int (28 : Int32)), (.ref a1), (.ref a1)])) (fun t k => XS.bipush Xp76.here hx rfl (hb hby at_184) k) ?_
  refine Goes.step (S' := T76.setTop (mkF m 188 #[.val (.int p1), .val (.int p2), .unset, .unset] [(.int (65536 : Int32)), (.int (28 : Int32)), (.ref a1), (.ref a1)])) (fun t k => Xp76.ldcInt hx hown (mvT hZ (hw _ (List.mem_of_getElem? (i := 6) rfl))) (g := (mkF m 186 #[.val (.int p1), .val (.int p2), .unset, .unset] [(.int (28 : Int32)), (.ref a1), (.ref a1)])) rfl (hb hby at_186) _ k) ?_
  obtain ⟨cl, Ar, Sz, Hs⟩ := V28
  obtain ⟨T77, h77, X77, e77, W77, st77⟩ := stI Xp76 hx hZ e76 Ar (j := (28 : Int32)) (by rw [Sz]; decide) (g := (mkF m 188 #[.val (.int p1), .val (.int p2), .unset, .unset] [(.int (65536 : Int32)), (.int (28 : Int32)), (.ref a1), (.ref a1)])) rfl rfl (hb hby at_188)
  have V29 : own_arr Z h77 a1 29 := own_arr_put Ar Sz Hs W77 rfl rfl (by decide)
  have N77 := Fr.snoc X77 Np76 ga
  refine Goes.step (S' := T77.setTop (mkF m 189 #[.val (.int p1), .val (.int p2), .unset, .unset] [(.ref a1)])) (fun t k => st77 t k) ?_
  obtain ⟨Lp77, Xp77, Np77⟩ : ∃ L, Stand p l e room_1 s m #[(.int p1), (.int p2)] below meth c T77 L 1 30 ∧ Fr n0 L := ⟨_, X77, N77⟩
  clear X77 N77 st77 W77 Ar Sz Hs
  clear cl
  clear Xp76 Np76 e76
  clear T76 h76 Lp76
  refine Goes.step (S' := T77.setTop (mkF m 190 #[.val (.int p1), .val (.int p2), .unset, .unset] [(.ref a1), (.ref a1)])) (fun t k => XS.dup Xp77.here hx rfl (hb hby at_189) rfl rfl k) ?_
  refine Goes.step (S' := T77.setTop (mkF m 192 #[.val (.int p1), .val (.int p2), .unset, .unset] [(.int (29 : Int32)), (.ref a1), (.ref a1)])) (fun t k => XS.bipush Xp77.here hx rfl (hb hby at_190) k) ?_
  refine Goes.step (S' := T77.setTop (mkF m 194 #[.val (.int p1), .val (.int p2), .unset, .unset] [(.int (983040 : Int32)), (.int (29 : Int32)), (.ref a1), (.ref a1)])) (fun t k => Xp77.ldcInt hx hown (mvT hZ (hw _ (List.mem_of_getElem? (i := 7) rfl))) (g := (mkF m 192 #[.val (.int p1), .val (.int p2), .unset, .unset] [(.int (29 : Int32)), (.ref a1), (.ref a1)])) rfl (hb hby at_192) _ k) ?_
  obtain ⟨cl, Ar, Sz, Hs⟩ := V29
  obtain ⟨T78, h78, X78, e78, W78, st78⟩ := stI Xp77 hx hZ e77 Ar (j := (29 : Int32)) (by rw [Sz]; decide) (g := (mkF m 194 #[.val (.int p1), .val (.int p2), .unset, .unset] [(.int (983040 : Int32)), (.int (29 : Int32)), (.ref a1), (.ref a1)])) rfl rfl (hb hby at_194)
  have V30 : own_arr Z h78 a1 30 := own_arr_put Ar Sz Hs W78 rfl rfl (by decide)
  have N78 := Fr.snoc X78 Np77 ga
  refine Goes.step (S' := T78.setTop (mkF m 195 #[.val (.int p1), .val (.int p2), .unset, .unset] [(.ref a1)])) (fun t k => st78 t k) ?_
  obtain ⟨Lp78, Xp78, Np78⟩ : ∃ L, Stand p l e room_1 s m #[(.int p1), (.int p2)] below meth c T78 L 1 30 ∧ Fr n0 L := ⟨_, X78, N78⟩
  clear X78 N78 st78 W78 Ar Sz Hs
  clear cl
  clear Xp77 Np77 e77
  clear T77 h77 Lp77
  refine Goes.step (S' := T78.setTop (mkF m 196 #[.val (.int p1), .val (.int p2), .val (.ref a1), .unset] [])) (fun t k => XS.astoreN Xp78.here hx rfl (hb hby at_195) rfl rfl (l' := #[.val (.int p1), .val (.int p2), .val (.ref a1), .unset]) rfl k) ?_
  refine Goes.step (S' := T78.setTop (mkF m 197 #[.val (.int p1), .val (.int p2), .val (.ref a1), .unset] [(.int p1)])) (fun t k => XS.iloadN Xp78.here hx rfl (hb hby at_196) rfl k) ?_
  refine Goes.step (S' := T78.setTop (mkF m 198 #[.val (.int p1), .val (.int p2), .val (.ref a1), .val (.int p1)] [])) (fun t k => XS.istoreN Xp78.here hx rfl (hb hby at_197) rfl (l' := #[.val (.int p1), .val (.int p2), .val (.ref a1), .val (.int p1)]) rfl k) ?_
  refine Goes.step (S' := T78.setTop (mkF m 199 #[.val (.int p1), .val (.int p2), .val (.ref a1), .val (.int p1)] [(.int p2)])) (fun t k => XS.iloadN Xp78.here hx rfl (hb hby at_198) rfl k) ?_
  refine Goes.step (S' := T78.setTop (mkF m 200 #[.val (.int p1), .val (.int p2), .val (.ref a1), .val (.int p1)] [(.int (1 : Int32)), (.int p2)])) (fun t k => XS.iconst Xp78.here hx rfl (hb hby at_199) k) ?_
  refine Goes.step (S' := T78.setTop (mkF m 201 #[.val (.int p1), .val (.int p2), .val (.ref a1), .val (.int p1)] [(.int (p2 &&& (1 : Int32)))])) (fun t k => XS.iand Xp78.here hx rfl (hb hby at_200) rfl k) ?_
  have Zh : n0 ≤ h78.size := by rw [← e78]; exact Nat.le_trans ga (Nat.le_of_lt (by obtain ⟨cl, Ar, -, -⟩ := V30; rw [e78]; exact Ar.lt))
  have K217 : ∀ (c' : Int32), Goes p e below (R0 Z p1 p2 h0 n0 s) (T78.setTop (mkF m 217 #[.val (.int p1), .val (.int p2), .val (.ref a1), .val (.int c')] [])) := by
    intro c'
    refine Goes.step (S' := T78.setTop (mkF m 218 #[.val (.int p1), .val (.int p2), .val (.ref a1), .val (.int c')] [(.int c')])) (fun t k => XS.iloadN Xp78.here hx rfl (hb hby at_217) rfl k) ?_
    obtain ⟨_, _, ⟨T80, L80, k80, n80⟩, -, X80, ⟨Lc80, hQ80, l80, y80, z80⟩, st80⟩ := Jvm.LawKit.callS Xp78 hx (y := (⟨"com/example/sapwood/sapwood/query/Lexer", "isNameStart", "(I)Z"⟩ : MethodName)) hown (mvT hZ (hw _ (List.mem_of_getElem? (i := 8) rfl))) (mvT hZ (hw _ (List.mem_of_getElem? (i := 9) rfl))) (mvT hZ (hw _ (List.mem_of_getElem? (i := 10) rfl))) (mvT hZ (hw _ (List.mem_of_getElem? (i := 11) rfl))) (by decide) (backOf (W := 0) (rm3 l Z a0 hw [] c' h78 n0 Zh) hZ (hw _ (List.mem_of_getElem? (i := 11) rfl)) (hw _ (List.mem_of_getElem? (i := 10) rfl)) (by decide) (by decide)) (g := (mkF m 218 #[.val (.int p1), .val (.int p2), .val (.ref a1), .val (.int c')] [(.int c')])) rfl (by rw [hml]; rfl) (argsL := [(.int c')]) (rest := []) (lenOf pd_3 rfl) rfl (by show 2 * 0 + _ ≤ _; exact Nat.le_of_eq rfl) (hb hby at_218) (fun _ _ => ⟨rfl, e78, (by decide : 1 + 0 ≤ _), (by decide : 30 + 0 ≤ _)⟩)
    dsimp only [Pt.U, Pt.locs, Pt.cells, Pt.slots] at X80 l80 y80 z80 st80 hQ80
    subst l80 y80 z80
    obtain ⟨rfl, N80q, e80⟩ := hQ80
    have N80 := Fr.app Np78 N80q
    refine Goes.step (S' := T80.setTop (mkF m 221 #[.val (.int p1), .val (.int p2), .val (.ref a1), .val (.int c')] [(.int (own_n0 c'))])) (fun t k => st80 t k) ?_
    refine Goes.step (S' := T80.setTop (mkF m 222 #[.val (.int p1), .val (.int p2), .val (.ref a1), .val (.int c')] [(.int c'), (.int (own_n0 c'))])) (fun t k => XS.iloadN X80.here hx rfl (hb hby at_221) rfl k) ?_
    obtain ⟨_, _, ⟨T81, L81, k81, n81⟩, -, X81, ⟨Lc81, hQ81, l81, y81, z81⟩, st81⟩ := Jvm.LawKit.callS X80 hx (y := (⟨"com/example/sapwood/sapwood/query/LexerIsNameStartPinLaw", "inside", "(I)Z"⟩ : MethodName)) hown (mvT hZ (hw _ (List.mem_of_getElem? (i := 15) rfl))) (mvT hZ (hw _ (List.mem_of_getElem? (i := 16) rfl))) (mvT hZ (hw _ (List.mem_of_getElem? (i := 17) rfl))) (mvT hZ (hw _ (List.mem_of_getElem? (i := 18) rfl))) (by decide) (backOf (W := 1) (rm2 l Z a0 hw [] c' h78 n0 Zh) hZ (hw _ (List.mem_of_getElem? (i := 18) rfl)) (hw _ (List.mem_of_getElem? (i := 17) rfl)) (by decide) (by decide)) (g := (mkF m 222 #[.val (.int p1), .val (.int p2), .val (.ref a1), .val (.int c')] [(.int c'), (.int (own_n0 c'))])) rfl (by rw [hml]; rfl) (argsL := [(.int c')]) (rest := [(.int (own_n0 c'))]) (lenOf pd_2 rfl) rfl (by show 2 * 0 + _ ≤ _; exact Nat.le_of_eq rfl) (hb hby at_222) (fun _ _ => ⟨rfl, e80, (by decide : 1 + 0 ≤ _), (by decide : 30 + 0 ≤ _)⟩)
    dsimp only [Pt.U, Pt.locs, Pt.cells, Pt.slots] at X81 l81 y81 z81 st81 hQ81
    subst l81 y81 z81
    obtain ⟨rfl, N81q, e81⟩ := hQ81
    have N81 := Fr.app N80 N81q
    refine Goes.step (S' := T81.setTop (mkF m 225 #[.val (.int p1), .val (.int p2), .val (.ref a1), .val (.int c')] [(.int (own_in c')), (.int (own_n0 c'))])) (fun t k => st81 t k) ?_
    refine Goes.step (S' := T81.setTop (mkF m 228 #[.val (.int p1), .val (.int p2), .val (.ref a1), .val (.int c')] [])) (fun t k => XS.icmpNo X81.here hx rfl (hb hby at_225) rfl (teq (own_same c')).2 k) ?_
    refine Goes.step (S' := T81.setTop (mkF m 229 #[.val (.int p1), .val (.int p2), .val (.ref a1), .val (.int c')] [(.int (1 : Int32))])) (fun t k => XS.iconst X81.here hx rfl (hb hby at_228) k) ?_
    refine Goes.step (S' := T81.setTop (mkF m 233 #[.val (.int p1), .val (.int p2), .val (.ref a1), .val (.int c')] [(.int (1 : Int32))])) (fun t k => XS.goto X81.here hx rfl (pc0 := 229) (pc' := 233) rfl (hb hby at_229) (by decide) (by decide) k) ?_
    obtain ⟨fs, hr, hrun, hended, hW, hsame⟩ := X81.leave (v := some (.int (1 : Int32))) (fun h => by rw [Bd.returns] at h; cases h)
    exact ⟨_, _, retN X81 hx (t := .boolean) Bd.returns (by simp) (hb hby at_233) hr, hrun, hended, _, _, rfl, ⟨rfl, N81⟩, ⟨_, rfl⟩, hW, hsame.mono (by decide) (by decide)⟩
  by_cases c1 : (p2 &&& (1 : Int32)) = (0 : Int32)
  · refine Goes.step (S' := T78.setTop (mkF m 217 #[.val (.int p1), .val (.int p2), .val (.ref a1), .val (.int p1)] [])) (fun t k => XS.ifYes Xp78.here hx rfl (pc0 := 201) (pc' := 217) rfl (hb hby at_201) rfl ((if0 _ _).trans (teq c1).1) (by decide) (by decide) k) ?_
    exact K217 _
  · refine Goes.step (S' := T78.setTop (mkF m 204 #[.val (.int p1), .val (.int p2), .val (.ref a1), .val (.int p1)] [])) (fun t k => XS.ifNo Xp78.here hx rfl (hb hby at_201) rfl ((if0 _ _).trans (feq c1).1) k) ?_
    refine Goes.step (S' := T78.setTop (mkF m 205 #[.val (.int p1), .val (.int p2), .val (.ref a1), .val (.int p1)] [(.ref a1)])) (fun t k => XS.aloadN Xp78.here hx rfl (hb hby at_204) rfl rfl k) ?_
    refine Goes.step (S' := T78.setTop (mkF m 206 #[.val (.int p1), .val (.int p2), .val (.ref a1), .val (.int p1)] [(.int p2), (.ref a1)])) (fun t k => XS.iloadN Xp78.here hx rfl (hb hby at_205) rfl k) ?_
    refine Goes.step (S' := T78.setTop (mkF m 207 #[.val (.int p1), .val (.int p2), .val (.ref a1), .val (.int p1)] [(.int (1 : Int32)), (.int p2), (.ref a1)])) (fun t k => XS.iconst Xp78.here hx rfl (hb hby at_206) k) ?_
    refine Goes.step (S' := T78.setTop (mkF m 208 #[.val (.int p1), .val (.int p2), .val (.ref a1), .val (.int p1)] [(.int (Jvm.Free.XT.ushr p2 (1 : Int32))), (.ref a1)])) (fun t k => Jvm.Free.XT.iushr Xp78.here hx rfl (hb hby at_207) rfl k) ?_
    refine Goes.step (S' := T78.setTop (mkF m 210 #[.val (.int p1), .val (.int p2), .val (.ref a1), .val (.int p1)] [(.int (30 : Int32)), (.int (Jvm.Free.XT.ushr p2 (1 : Int32))), (.ref a1)])) (fun t k => XS.bipush Xp78.here hx rfl (hb hby at_208) k) ?_
    refine Goes.step (S' := T78.setTop (mkF m 211 #[.val (.int p1), .val (.int p2), .val (.ref a1), .val (.int p1)] [(.int ((Jvm.Free.XT.ushr p2 (1 : Int32)) % (30 : Int32))), (.ref a1)])) (fun t k => iremM Xp78 hx rfl (hb hby at_210) rfl (by decide) k) ?_
    obtain ⟨i1, i2⟩ := own_idx p2
    obtain ⟨cl, Ar, Sz, Hs⟩ := V30
    refine Goes.step (S' := T78.setTop (mkF m 212 #[.val (.int p1), .val (.int p2), .val (.ref a1), .val (.int p1)] [(.int (own_b ((Jvm.Free.XT.ushr p2 (1 : Int32)) % (30 : Int32)).toNatClampNeg))])) (fun t k => Xp78.iaload hx (j := ((Jvm.Free.XT.ushr p2 (1 : Int32)) % (30 : Int32))) (v := .int (own_b ((Jvm.Free.XT.ushr p2 (1 : Int32)) % (30 : Int32)).toNatClampNeg)) (by rw [e78]; exact Ar.1) (State.isArrayOf_alike hZ.alike Ar.2.1) Ar.2.2 (fun q => q.elim i1 (fun z => absurd i2 (Nat.not_lt.mpr (Sz ▸ z)))) (Hs _ i2) (g := (mkF m 211 #[.val (.int p1), .val (.int p2), .val (.ref a1), .val (.int p1)] [(.int ((Jvm.Free.XT.ushr p2 (1 : Int32)) % (30 : Int32))), (.ref a1)])) rfl rfl (hb hby at_211) _ k) ?_
    refine Goes.step (S' := T78.setTop (mkF m 213 #[.val (.int p1), .val (.int p2), .val (.ref a1), .val (.int p1)] [(.int p1), (.int (own_b ((Jvm.Free.XT.ushr p2 (1 : Int32)) % (30 : Int32)).toNatClampNeg))])) (fun t k => XS.iloadN Xp78.here hx rfl (hb hby at_212) rfl k) ?_
    refine Goes.step (S' := T78.setTop (mkF m 214 #[.val (.int p1), .val (.int p2), .val (.ref a1), .val (.int p1)] [(.int (3 : Int32)), (.int p1), (.int (own_b ((Jvm.Free.XT.ushr p2 (1 : Int32)) % (30 : Int32)).toNatClampNeg))])) (fun t k => XS.iconst Xp78.here hx rfl (hb hby at_213) k) ?_
    refine Goes.step (S' := T78.setTop (mkF m 215 #[.val (.int p1), .val (.int p2), .val (.ref a1), .val (.int p1)] [(.int (p1 % (3 : Int32))), (.int (own_b ((Jvm.Free.XT.ushr p2 (1 : Int32)) % (30 : Int32)).toNatClampNeg))])) (fun t k => iremM Xp78 hx rfl (hb hby at_214) rfl (by decide) k) ?_
    refine Goes.step (S' := T78.setTop (mkF m 216 #[.val (.int p1), .val (.int p2), .val (.ref a1), .val (.int p1)] [(.int ((own_b ((Jvm.Free.XT.ushr p2 (1 : Int32)) % (30 : Int32)).toNatClampNeg) + (p1 % (3 : Int32))))])) (fun t k => XS.iadd Xp78.here hx rfl (hb hby at_215) rfl k) ?_
    refine Goes.step (S' := T78.setTop (mkF m 217 #[.val (.int p1), .val (.int p2), .val (.ref a1), .val (.int ((own_b ((Jvm.Free.XT.ushr p2 (1 : Int32)) % (30 : Int32)).toNatClampNeg) + (p1 % (3 : Int32))))] [])) (fun t k => XS.istoreN Xp78.here hx rfl (hb hby at_216) rfl (l' := #[.val (.int p1), .val (.int p2), .val (.ref a1), .val (.int ((own_b ((Jvm.Free.XT.ushr p2 (1 : Int32)) % (30 : Int32)).toNatClampNeg) + (p1 % (3 : Int32))))]) rfl k) ?_
    exact K217 _
set_option maxRecDepth 65536 in
set_option maxHeartbeats 40000000 in
theorem comes_1 {Post : Tables → Env → Array Value → State → Outcome → State → Prop} (hpost : ∀ tb e args s v u, (limb_1_1.after args s (.returned v) u = true ∧ limb_1_2.after args s (.returned v) u = true ∧ True) → FrameEnd s (.returned v) u (Jvm.fieldLocs frame_1_writes args s ++ Jvm.arrayLocs frame_1_arrays args s ++ Jvm.staticLocs frame_1_statics s) 16 128 → Post tb e args s (.returned v) u) :
    ArmFor flags0 classFile x code maxLocals ret World_1 tables_1 room_1 Calls_1 rest_1 Pre_1 Post := by
  intro l hfl _ _ p e ha hc hk s m args below hf hA hF happ hP
  obtain ⟨hcalls, hrest, hpre⟩ := hP
  obtain ⟨-, -, -, hnamed, -, -, -, hat⟩ := (Spec.applies_iff hf).mp happ
  obtain ⟨hg, hn⟩ := and_e (Cond.before_iff.mp (show (Jvm.Cond.and given_1 narrow_1).before args s = true from hpre))
  obtain ⟨h1, ha0⟩ := and_e hg
  obtain ⟨w0, w1, rfl⟩ : ∃ w0 w1 : Value, args = #[w0, w1] := by
    have hs : args.size = 2 := by simpa [Cond.value, given_1] using h1
    obtain ⟨L⟩ := args
    match L, hs with
    | [w0, w1], _ => exact ⟨w0, w1, rfl⟩
  have hw := fun d (hd : d ∈ tables_1) => atoms_spec (ws := Jvm.Cond.code x code maxLocals ret :: tables_1) hat d (List.mem_cons_of_mem _ hd)
  have hfit : Fit s := fun {y c} hc i hi => by
    obtain ⟨ha, rfl⟩ := Array.getElem?_eq_some_iff.mp hc
    have q := List.all_eq_true.mp ((Array.all_eq_true_iff_forall_mem.mp hF) _ (Array.getElem_mem ha)) i (List.mem_range.mpr hi)
    simpa [Array.getElem?_eq_getElem hi] using q
  obtain ⟨hv0, ha1⟩ := and_e ha0
  obtain ⟨i0, ei0⟩ := is_v hv0
  obtain rfl : w0 = (.int i0) := Option.some.inj ei0
  obtain ⟨i1, ei1⟩ := is_v ha1
  obtain rfl : w1 = (.int i1) := Option.some.inj ei1
  obtain ⟨n, o, h1, h2, h3, _, L, rfl, ⟨rfl, N⟩, hq⟩ := rm0 l s _ hw tables_1 i0 i1  s.heap s.heap.size (Nat.le_refl _)  p e ha hc hk s m _ below hf ((Spec.applies_iff_loose hf).mp happ).1 ⟨rfl, State.Warmed39.refl s, rfl⟩ trivial
  refine ⟨n, _, h1, h2, h3, hpost _ _ _ _ _ _ ⟨Cond.after_iff.mpr rfl, Cond.after_iff.mpr (eq_i res_at (Term.int_eval (1)) rfl), trivial⟩ ⟨hq.1, hq.2.1, (hq.2.2.sift fun y hy => Or.inr (N y hy)).mono (by decide) (by decide)⟩⟩
theorem main_1_1 : Claimed_1_1 := comes_1 fun _ _ _ _ _ _ h hF => ⟨h.1, hF⟩
theorem main_1_2 : Claimed_1_2 := comes_1 fun _ _ _ _ _ _ h hF => ⟨h.2.1, hF⟩
end Jvm.Pilot.@@N@@
namespace Jvm.Pilot.@@N@@
open Jvm Jvm.ClassFile Sem Op Lib Jvm.Free Jvm.Stand Jvm.Pilot.@@N@@.Jvm.D
/-! MADE BY PROGRAM (witnessworld.py) out of the Statement's table words and the real class files: 9 classes; the members and pool entries that the words name. The judged class is class 1, her method 1. -/
namespace start1
open Jvm.ClassFile
def u (s : String) : CpInfo := .utf8 (stringToUtf16 s)
/-- a pool by its gaps: so many unusable entries, then the entry; so many at the end -/
def gap : Nat → List CpInfo → List CpInfo
  | 0, r => r
  | n + 1, r => .unusable :: gap n r
def poolList (es : List (Nat × CpInfo)) (last : Nat) : List CpInfo := es.foldr (fun e r => gap e.1 (e.2 :: r)) (gap last [])
def pool (es : List (Nat × CpInfo)) (last : Nat) : Array CpInfo := ⟨poolList es last⟩
def fileOf (pool : Array CpInfo) (this : Nat) (attrs : Array Attribute := #[]) (ms : Array MethodInfo := #[]) (fl : Nat := 33) (sup : Nat := 0) (ifs : Array Nat := #[]) (fds : Array FieldInfo := #[]) : ClassFile where
  minorVersion := 0
  majorVersion := 65
  constantPool := pool
  accessFlags := fl
  thisClass := this
  superClass := sup
  interfaces := ifs
  fields := fds
  methods := ms
  attributes := attrs
def plain (name : String) (sup : Option ClassId) : Class where
  name := name
  kind := .ordinary
  loader := none
  accessFlags := 33
  super := sup
  interfaces := #[]
  cf := none
  fields := #[]
  methods := #[]
  instanceTypes := #[]
  staticTypes := #[]
  resolved := #[]
  callSites := []
  init := .initialized
  statics := none
  mirror := none

def pool0 : Array CpInfo := pool [(5, u "<init>"), (0, u "()V"), (1, .class_ 10), (1, u "java/lang/Object")] 113

def k0m0 : Method := { name := "<init>", desc := "()V", sig := { parameters := [], returnType := none }, accessFlags := 1, code := none }
/-- java/lang/Object -/
def k0 : Class := { plain "java/lang/Object" none with
  accessFlags := 33
  interfaces := #[]
  cf := some (fileOf pool0 8 #[] #[{ accessFlags := 1, nameIndex := 5, descriptorIndex := 6, attributes := #[] }] 33 0 #[] #[])
  fields := #[]
  methods := #[k0m0]
  instanceTypes := #[]
  staticTypes := #[]
  resolved := Array.replicate 124 none
  statics := none }

def pool1 : Array CpInfo := pool [(2, .class_ 4), (1, u "java/lang/Object"), (0, u "<init>"), (0, u "()V"), (0, .integer 55296), (0, .integer 63744), (0, .integer 64976), (0, .integer 65008), (0, .integer 65534), (0, .integer 65536), (0, .integer 983040), (0, .methodref 15 16), (0, .class_ 17), (0, .nameAndType 18 19), (0, u "com/example/sapwood/sapwood/query/Lexer"), (0, u "isNameStart"), (0, u "(I)Z"), (0, .methodref 21 22), (0, .class_ 23), (0, .nameAndType 24 19), (0, u "com/example/sapwood/sapwood/query/LexerIsNameStartPinLaw"), (0, u "inside"), (0, .methodref 21 26), (0, .nameAndType 27 28), (0, u "ge"), (0, u "(II)I"), (2, u "law"), (0, u "(II)Z")] 5

def k1m0 : Method := { name := "<init>", desc := "()V", sig := { parameters := [], returnType := none }, accessFlags := 1, code := none }
def k1c1 : Code := { maxStack := 4, maxLocals := 4, code := code, exceptionTable := #[], attributes := #[] }
def k1m1 : Method := { name := "law", desc := "(II)Z", sig := { parameters := [.int, .int], returnType := some .boolean }, accessFlags := 9, code := some k1c1 }
def k1c2 : Code := { maxStack := 2, maxLocals := 2, code := method_3_code, exceptionTable := #[], attributes := #[] }
def k1m2 : Method := { name := "ge", desc := "(II)I", sig := { parameters := [.int, .int], returnType := some .int }, accessFlags := 10, code := some k1c2 }
def k1c3 : Code := { maxStack := 3, maxLocals := 2, code := method_4_code, exceptionTable := #[], attributes := #[] }
def k1m3 : Method := { name := "inside", desc := "(I)Z", sig := { parameters := [.int], returnType := some .boolean }, accessFlags := 10, code := some k1c3 }
/-- com/example/sapwood/sapwood/query/LexerIsNameStartPinLaw -/
def k1 : Class := { plain "com/example/sapwood/sapwood/query/LexerIsNameStartPinLaw" (some 0) with
  accessFlags := 49
  interfaces := #[]
  cf := some (fileOf pool1 21 #[] #[{ accessFlags := 1, nameIndex := 5, descriptorIndex := 6, attributes := #[] }, { accessFlags := 9, nameIndex := 31, descriptorIndex := 32, attributes := #[] }, { accessFlags := 10, nameIndex := 27, descriptorIndex := 28, attributes := #[] }, { accessFlags := 10, nameIndex := 24, descriptorIndex := 19, attributes := #[] }] 49 2 #[] #[])
  fields := #[]
  methods := #[k1m0, k1m1, k1m2, k1m3]
  instanceTypes := #[]
  staticTypes := #[]
  resolved := Array.replicate 38 none
  statics := none }

def pool2 : Array CpInfo := pool [(2, .class_ 4), (1, u "java/lang/Object"), (3, .class_ 10), (1, u "com/example/sapwood/sapwood/query/Lexer"), (0, u "query"), (0, u "Ljava/lang/String;"), (2, u "position"), (0, u "I"), (10, .class_ 29), (1, u "com/example/sapwood/sapwood/query/Lexer$Kind"), (28, u "isNameStart"), (0, u "(I)Z"), (30, .class_ 91), (0, u "com/example/sapwood/sapwood/query/Lexer$Token"), (74, u "ENTITIES"), (0, u "Ljava/util/Map;"), (41, u "LONG_SYMBOLS"), (0, u "[Ljava/lang/String;"), (28, .integer 55295), (0, .integer 63744), (0, .integer 64975), (0, .integer 65008), (0, .integer 65533), (0, .integer 65536), (0, .integer 983039)] 94

def k2c0 : Code := { maxStack := 2, maxLocals := 1, code := prog_122_method_18_code, exceptionTable := #[], attributes := #[] }
def k2m0 : Method := { name := "isNameStart", desc := "(I)Z", sig := { parameters := [.int], returnType := some .boolean }, accessFlags := 8, code := some k2c0 }
/-- com/example/sapwood/sapwood/query/Lexer -/
def k2 : Class := { plain "com/example/sapwood/sapwood/query/Lexer" (some 0) with
  accessFlags := 48
  interfaces := #[]
  cf := some (fileOf pool2 8 #[.nestMembers #[90, 27]] #[{ accessFlags := 8, nameIndex := 58, descriptorIndex := 59, attributes := #[] }] 48 2 #[] #[{ accessFlags := 26, nameIndex := 209, descriptorIndex := 210, attributes := #[] }, { accessFlags := 26, nameIndex := 166, descriptorIndex := 167, attributes := #[] }, { accessFlags := 18, nameIndex := 11, descriptorIndex := 12, attributes := #[] }, { accessFlags := 2, nameIndex := 15, descriptorIndex := 16, attributes := #[] }])
  fields := #[{ name := "LONG_SYMBOLS", type := (.array (.object "java/lang/String")), accessFlags := 26, slot := 0, constantValue := 0 }, { name := "ENTITIES", type := (.object "java/util/Map"), accessFlags := 26, slot := 1, constantValue := 0 }, { name := "query", type := (.object "java/lang/String"), accessFlags := 18, slot := 0, constantValue := 0 }, { name := "position", type := .int, accessFlags := 2, slot := 1, constantValue := 0 }]
  methods := #[k2m0]
  instanceTypes := #[(.object "java/lang/String"), .int]
  staticTypes := #[(.array (.object "java/lang/String")), (.object "java/util/Map")]
  resolved := Array.replicate 340 none
  statics := none }

def pool3 : Array CpInfo := pool [(1, u "java/lang/Cloneable"), (0, .class_ 1), (0, u "java/lang/Object"), (0, .class_ 3)] 3

/-- java/lang/Cloneable -/
def k3 : Class := { plain "java/lang/Cloneable" (some 0) with
  accessFlags := 1537
  interfaces := #[]
  cf := some (fileOf pool3 2 #[] #[] 1537 4 #[] #[])
  fields := #[]
  methods := #[]
  instanceTypes := #[]
  staticTypes := #[]
  resolved := Array.replicate 8 none
  statics := none }

def pool4 : Array CpInfo := pool [(1, u "java/io/Serializable"), (0, .class_ 1), (0, u "java/lang/Object"), (0, .class_ 3)] 3

/-- java/io/Serializable -/
def k4 : Class := { plain "java/io/Serializable" (some 0) with
  accessFlags := 1537
  interfaces := #[]
  cf := some (fileOf pool4 2 #[] #[] 1537 4 #[] #[])
  fields := #[]
  methods := #[]
  instanceTypes := #[]
  staticTypes := #[]
  resolved := Array.replicate 8 none
  statics := none }

/-- the primitive byte -/
def k5 : Class := { plain "byte" none with kind := .primitive 'B', accessFlags := 0x411 }
/-- [B -/
def k6 : Class := { plain "[B" (some 0) with kind := .array 5 .byte, interfaces := #[3, 4], accessFlags := 1041 }

/-- the primitive int -/
def k7 : Class := { plain "int" none with kind := .primitive 'I', accessFlags := 0x411 }
/-- [I -/
def k8 : Class := { plain "[I" (some 0) with kind := .array 7 .int, interfaces := #[3, 4], accessFlags := 1041 }

def heap : Heap := #[]
def classes : Array Class := #[k0, k1, k2, k3, k4, k5, k6, k7, k8]
def interned : List (Array UInt16 × Addr) := []
def slotsUsed : Nat := 0
def theMethod : MethodId := ⟨1, 1⟩
def args0 : Array Value := #[.int 70, .int 3]
def aboutOver (below : List Frame) : State where
  vm := { classes := classes, interned := interned.toArray }
  heap := heap
  slotsUsed := slotsUsed
  threads := #[{ frames := .invoking theMethod args0 :: below }]
def below0 : List Frame := [.native { method := ⟨0, 0⟩, args := #[] }]
def about1 : State := aboutOver below0
def p0 : Program := .bare "" "" ""
def e0 : Env := launch0.env 0 0 0
theorem w_frames : about1.frames = Frame.invoking theMethod args0 :: below0 := rfl
set_option maxRecDepth 65536 in
theorem w_args : argsFit about1.vm theMethod args0 = true := by decide +kernel
set_option maxRecDepth 65536 in
theorem w_heap : heapFits about1 = true := by decide +kernel
set_option maxRecDepth 65536 in
theorem w_runnable : about1.curStatus? = some .runnable := by decide +kernel
set_option maxRecDepth 65536 in
theorem w_alone : about1.alone = true := by decide +kernel
set_option maxRecDepth 65536 in
theorem w_named : about1.methodNamed? x = some theMethod := by decide +kernel
set_option maxRecDepth 65536 in
theorem w_hears : about1.hears theMethod below0 = true := by decide +kernel
set_option maxRecDepth 65536 in
theorem w_ripe : about1.ripe theMethod args0 below0 = true := by decide +kernel
theorem w_running : about1.status = .running := rfl
set_option maxRecDepth 65536 in
theorem w_room : about1.hasRoom e0.platform room_1 = true :=
  launch0.hasRoom_least _ room_1 (by decide +kernel) (by decide +kernel) (by decide +kernel) (by decide +kernel) (by decide +kernel) (by decide +kernel)
theorem allAtoms_all (ts : List Jvm.Cond) (a : Array Jvm.Value) (st : Jvm.State) : (allAtoms ts).before a st = ts.all (fun c => c.before a st) := by
  induction ts with
  | nil => rfl
  | cons c t ih =>
    show (Jvm.Cond.and c (allAtoms t)).before a st = _
    rw [Jvm.Cond.before_and, ih, List.all_cons]
def words1 : List Jvm.Cond := Jvm.Cond.code x code maxLocals ret :: tables_1
/-- a 'code' word, met by the world's own term for the bytes: nothing is compared byte by byte -/
theorem code_word {y : MethodName} {bytes : ByteArray} {mx : Nat} {rt : Option FieldType} {a : Array Value} {s : State} {m : MethodId} {meth : Method} {c : Code} (h1 : s.methodNamed? y = some m) (h2 : s.vm.method? m = some meth) (h3 : meth.code = some c) (h4 : c.code = bytes)
    (h5 : (c.maxLocals == mx && c.exceptionTable.isEmpty && decide (c.maxStack ≤ mostOperands) && decide (meth.sig.returnType = rt) && !meth.locks && decide (parseMethodDescriptor y.desc = some meth.sig)) = true) : (Jvm.Cond.code y bytes mx rt).before a s = true := by
  simp only [Bool.and_eq_true, beq_iff_eq, Bool.not_eq_true', decide_eq_true_eq] at h5
  obtain ⟨⟨⟨⟨⟨g1, g2⟩, g3⟩, g4⟩, g5⟩, g6⟩ := h5
  simp [Cond.before, Cond.holds, Cond.value, h1, h2, h3, h4, g1, g2, g3, g4, g5, g6]
def isCode : Jvm.Cond → Bool
  | .code _ _ _ _ => true
  | _ => false
theorem all_split {L : List Jvm.Cond} {P : Jvm.Cond → Bool} (h1 : L.all (fun c => isCode c || P c) = true) (h2 : ∀ c ∈ L.filter isCode, P c = true) : L.all P = true := by
  refine List.all_eq_true.mpr fun c hc => ?_
  have h := List.all_eq_true.mp h1 c hc
  rcases Bool.eq_false_or_eq_true (isCode c) with hi | hi
  · exact h2 c (List.mem_filter.mpr ⟨hc, hi⟩)
  · simpa [hi] using h
set_option maxRecDepth 65536 in
theorem w_c0 : (Jvm.Cond.code x code maxLocals ret).before args0 about1 = true := code_word (m := ⟨1, 1⟩) (meth := k1m1) (c := k1c1) (by decide +kernel) rfl rfl rfl (by decide +kernel)
set_option maxRecDepth 65536 in
theorem w_c1 : (Jvm.Cond.code ({ cls := "com/example/sapwood/sapwood/query/Lexer", name := "isNameStart", desc := "(I)Z" } : Jvm.MethodName) prog_122_method_18_code (1 : Nat) (Option.some Jvm.ClassFile.FieldType.boolean)).before args0 about1 = true := code_word (m := ⟨2, 0⟩) (meth := k2m0) (c := k2c0) (by decide +kernel) rfl rfl rfl (by decide +kernel)
set_option maxRecDepth 65536 in
theorem w_c2 : (Jvm.Cond.code ({ cls := "com/example/sapwood/sapwood/query/LexerIsNameStartPinLaw", name := "inside", desc := "(I)Z" } : Jvm.MethodName) method_4_code (2 : Nat) (Option.some Jvm.ClassFile.FieldType.boolean)).before args0 about1 = true := code_word (m := ⟨1, 3⟩) (meth := k1m3) (c := k1c3) (by decide +kernel) rfl rfl rfl (by decide +kernel)
set_option maxRecDepth 65536 in
theorem w_c3 : (Jvm.Cond.code ({ cls := "com/example/sapwood/sapwood/query/LexerIsNameStartPinLaw", name := "ge", desc := "(II)I" } : Jvm.MethodName) method_3_code (2 : Nat) (Option.some Jvm.ClassFile.FieldType.int)).before args0 about1 = true := code_word (m := ⟨1, 2⟩) (meth := k1m2) (c := k1c2) (by decide +kernel) rfl rfl rfl (by decide +kernel)
def codes1 : List Jvm.Cond := [Jvm.Cond.code x code maxLocals ret, Jvm.Cond.code ({ cls := "com/example/sapwood/sapwood/query/Lexer", name := "isNameStart", desc := "(I)Z" } : Jvm.MethodName) prog_122_method_18_code (1 : Nat) (Option.some Jvm.ClassFile.FieldType.boolean), Jvm.Cond.code ({ cls := "com/example/sapwood/sapwood/query/LexerIsNameStartPinLaw", name := "inside", desc := "(I)Z" } : Jvm.MethodName) method_4_code (2 : Nat) (Option.some Jvm.ClassFile.FieldType.boolean), Jvm.Cond.code ({ cls := "com/example/sapwood/sapwood/query/LexerIsNameStartPinLaw", name := "ge", desc := "(II)I" } : Jvm.MethodName) method_3_code (2 : Nat) (Option.some Jvm.ClassFile.FieldType.int)]
set_option maxRecDepth 65536 in
theorem codes_eq : words1.filter isCode = codes1 := rfl
theorem w_codes : ∀ c ∈ words1.filter isCode, c.before args0 about1 = true := by
  rw [codes_eq]
  intro c hc
  simp only [codes1, List.mem_cons, List.not_mem_nil, or_false] at hc
  rcases hc with rfl | rfl | rfl | rfl
  · exact w_c0
  · exact w_c1
  · exact w_c2
  · exact w_c3
set_option maxRecDepth 65536 in
theorem w_t1 : (words1.take 24).all (fun c => isCode c || c.before args0 about1) = true := by decide +kernel
set_option maxRecDepth 65536 in
theorem w_t2 : (words1.drop 24).all (fun c => isCode c || c.before args0 about1) = true := by decide +kernel
theorem w_tables : (allAtoms (Jvm.Cond.code x code maxLocals ret :: tables_1)).before args0 about1 = true := by
  rw [allAtoms_all]
  show words1.all (fun c => c.before args0 about1) = true
  refine all_split ?_ w_codes
  rw [← List.take_append_drop 24 words1, List.all_append, w_t1, w_t2]
  rfl
set_option maxRecDepth 65536 in
theorem w_case : (Jvm.Cond.and given_1 narrow_1).before args0 about1 = true := by decide +kernel
theorem w_applies : (headSpec (Jvm.Cond.code x code maxLocals ret :: tables_1) room_1).applies x e0.platform about1 = true :=
  (Spec.applies_iff w_frames).mpr ⟨w_running, w_runnable, w_alone, w_named, w_hears, w_ripe, w_room, w_tables⟩
theorem atStart : AtStart classFile x code maxLocals ret World_1 tables_1 room_1 Calls_1 rest_1 Pre_1 launch0 p0 e0 about1 theMethod args0 below0 :=
  ⟨lists_1, trivial, launch0.admits_env _ _ _, launch0.least_env, fairChoices_fair.cas, fairChoices_fair.clock, w_frames, w_args, w_heap, w_applies, trivial, trivial, w_case⟩
end start1
theorem witness_1 : WitnessClaimed_1 := ⟨start1.p0, start1.e0, start1.about1, start1.theMethod, start1.args0, start1.below0, start1.atStart⟩
end Jvm.Pilot.@@N@@
