import JvmDerived
import JvmDerived.Pilot.@@N@@Statement
import JvmDerived.Pilot.@@N@@Code
set_option linter.unusedVariables false
set_option linter.unusedSimpArgs false
@@BLOCK:NumsL.lean.txt@@
namespace Jvm.RoadKit
open Sem ClassFile Op Lib Jvm.Stand Jvm.Free Jvm.LawKit
section New
variable {p : Program} {l : Launch} {e : Env} {R : Room} {s : State} {m : MethodId} {args : Array Value} {below : List Frame} {meth : Method} {c : Code} {T : State} {locs : List Loc} {cells slots : Nat}
theorem retI (X : Stand p l e R s m args below meth c T locs cells slots) (hx : p.tables.exec = Jvm.exec) {pc : Nat} {Ls : Array Slot} {z : Int32} {rest : List Value} (hret : meth.sig.returnType = some .int) (hd : decode c.code pc = .ok (.ireturn, 1)) {fs : List Frame}
    (hl : ∀ (f : JFrame) (acts : List Action), f.method = m → f.locked = none → f.entered = [] → (doReturn e (T.setTop f) acts (some (.int z))).1 = T.setFrames fs) : Steps p.tables e below (T.setTop (mkF m pc Ls (.int z :: rest))) (T.setFrames fs) := by
  have hm' : T.vm.method? m = some meth := X.method'
  have hn : narrow .int (.int z) = .int z := rfl
  show Steps p.tables e below (T.setTop { method := m, pc := pc, locals := Ls, stack := _ :: rest, locked := none }) _
  jvm_step X.here [X.here.top, hx, hd, hm', hret, hn]
  first | (intro acts; rw [hl _ acts rfl rfl rfl]) | rw [hl _ _ rfl rfl rfl]
  exact Steps.refl _
end New
end Jvm.RoadKit
namespace Jvm.Pilot.@@N@@
open Jvm Jvm.ClassFile Sem Op Lib Jvm.Free Jvm.Stand Jvm.LawKit Jvm.RoadKit Bundle Jvm.Pilot.@@N@@.Jvm.D
def own_d3 (c r : Int32) : Int32 := if r = (16 : Int32) then (if c < (65 : Int32) then -1 else if (70 : Int32) < c then -1 else (c - (65 : Int32)) + (10 : Int32)) else -1
def own_d2 (c r : Int32) : Int32 := if r = (16 : Int32) then (if c < (97 : Int32) then own_d3 c r else if (102 : Int32) < c then own_d3 c r else (c - (97 : Int32)) + (10 : Int32)) else own_d3 c r
def own_d1 (c r : Int32) : Int32 := if c < (48 : Int32) then own_d2 c r else if (57 : Int32) < c then own_d2 c r else c - (48 : Int32)
theorem own_d1_l {c r : Int32} (h : c < (48 : Int32)) : own_d1 c r = own_d2 c r := by unfold own_d1; rw [if_pos h]
theorem own_d1_g {c r : Int32} (h : ¬ c < (48 : Int32)) (g : (57 : Int32) < c) : own_d1 c r = own_d2 c r := by unfold own_d1; rw [if_neg h, if_pos g]
theorem own_d1_y {c r : Int32} (h : ¬ c < (48 : Int32)) (g : ¬ (57 : Int32) < c) : own_d1 c r = c - (48 : Int32) := by unfold own_d1; rw [if_neg h, if_neg g]
theorem own_d2_n {c r : Int32} (k : ¬ r = (16 : Int32)) : own_d2 c r = own_d3 c r := by unfold own_d2; rw [if_neg k]
theorem own_d2_l {c r : Int32} (k : r = (16 : Int32)) (h : c < (97 : Int32)) : own_d2 c r = own_d3 c r := by unfold own_d2; rw [if_pos k, if_pos h]
theorem own_d2_g {c r : Int32} (k : r = (16 : Int32)) (h : ¬ c < (97 : Int32)) (g : (102 : Int32) < c) : own_d2 c r = own_d3 c r := by unfold own_d2; rw [if_pos k, if_neg h, if_pos g]
theorem own_d2_y {c r : Int32} (k : r = (16 : Int32)) (h : ¬ c < (97 : Int32)) (g : ¬ (102 : Int32) < c) : own_d2 c r = (c - (97 : Int32)) + (10 : Int32) := by unfold own_d2; rw [if_pos k, if_neg h, if_neg g]
theorem own_d3_n {c r : Int32} (k : ¬ r = (16 : Int32)) : own_d3 c r = -1 := by unfold own_d3; rw [if_neg k]
theorem own_d3_l {c r : Int32} (k : r = (16 : Int32)) (h : c < (65 : Int32)) : own_d3 c r = -1 := by unfold own_d3; rw [if_pos k, if_pos h]
theorem own_d3_g {c r : Int32} (k : r = (16 : Int32)) (h : ¬ c < (65 : Int32)) (g : (70 : Int32) < c) : own_d3 c r = -1 := by unfold own_d3; rw [if_pos k, if_neg h, if_pos g]
theorem own_d3_y {c r : Int32} (k : r = (16 : Int32)) (h : ¬ c < (65 : Int32)) (g : ¬ (70 : Int32) < c) : own_d3 c r = (c - (65 : Int32)) + (10 : Int32) := by unfold own_d3; rw [if_pos k, if_neg h, if_neg g]
/-- the two texts' bytes -/
def own_lo (n : Nat) : Int32 := ([48, 49, 50, 51, 52, 53, 54, 55, 56, 57, 97, 98, 99, 100, 101, 102] : List Int32).getD n 0
def own_up (n : Nat) : Int32 := ([48, 49, 50, 51, 52, 53, 54, 55, 56, 57, 65, 66, 67, 68, 69, 70] : List Int32).getD n 0
theorem own_read : ∀ n : Fin 16, (n.1 < 10 → own_d1 (own_lo n.1 &&& (255 : Int32)) (10 : Int32) = Int32.ofNat n.1 ∧ own_d1 (own_up n.1 &&& (255 : Int32)) (10 : Int32) = Int32.ofNat n.1) ∧ own_d1 (own_lo n.1 &&& (255 : Int32)) (16 : Int32) = Int32.ofNat n.1 ∧ own_d1 (own_up n.1 &&& (255 : Int32)) (16 : Int32) = Int32.ofNat n.1 := by decide +kernel
theorem own_small {c : Int32} (h : 0 ≤ c.toInt) (g : c.toInt < 128) : ∃ n : Fin 128, c = Int32.ofNat n.1 := by
  refine ⟨⟨c.toInt.toNat, by omega⟩, ?_⟩
  apply Int32.toInt_inj.mp
  show c.toInt = (Int32.ofNat c.toInt.toNat).toInt
  rw [Int32.toInt_ofNat_of_lt (by omega)]; omega
theorem own_tab10 : ∀ n : Fin 128, own_d1 (Int32.ofNat n.1) (10 : Int32) = -1 ∨ (¬ own_d1 (Int32.ofNat n.1) (10 : Int32) < (0 : Int32) ∧ own_d1 (Int32.ofNat n.1) (10 : Int32) < (10 : Int32) ∧ (own_lo (own_d1 (Int32.ofNat n.1) (10 : Int32)).toNatClampNeg &&& (255 : Int32) = Int32.ofNat n.1 ∨ own_up (own_d1 (Int32.ofNat n.1) (10 : Int32)).toNatClampNeg &&& (255 : Int32) = Int32.ofNat n.1)) := by decide +kernel
theorem own_tab16 : ∀ n : Fin 128, own_d1 (Int32.ofNat n.1) (16 : Int32) = -1 ∨ (¬ own_d1 (Int32.ofNat n.1) (16 : Int32) < (0 : Int32) ∧ own_d1 (Int32.ofNat n.1) (16 : Int32) < (16 : Int32) ∧ (own_lo (own_d1 (Int32.ofNat n.1) (16 : Int32)).toNatClampNeg &&& (255 : Int32) = Int32.ofNat n.1 ∨ own_up (own_d1 (Int32.ofNat n.1) (16 : Int32)).toNatClampNeg &&& (255 : Int32) = Int32.ofNat n.1)) := by decide +kernel
theorem own_none {c r : Int32} (h : c.toInt < 0 ∨ 128 ≤ c.toInt) : own_d1 c r = -1 := by
  have L : ∀ {k : Int32} , c.toInt < k.toInt → c < k := fun q => Int32.lt_iff_toInt_lt.mpr q
  have N : ∀ {k : Int32} , k.toInt ≤ c.toInt → ¬ c < k := fun q z => by rw [Int32.lt_iff_toInt_lt] at z; omega
  have G : ∀ {k : Int32} , k.toInt < c.toInt → k < c := fun q => Int32.lt_iff_toInt_lt.mpr q
  have e48 : (48 : Int32).toInt = 48 := rfl
  have e57 : (57 : Int32).toInt = 57 := rfl
  have e65 : (65 : Int32).toInt = 65 := rfl
  have e70 : (70 : Int32).toInt = 70 := rfl
  have e97 : (97 : Int32).toInt = 97 := rfl
  have e102 : (102 : Int32).toInt = 102 := rfl
  rcases h with h | h
  · rw [own_d1_l (L (by omega))]
    by_cases k : r = (16 : Int32)
    · rw [own_d2_l k (L (by omega)), own_d3_l k (L (by omega))]
    · rw [own_d2_n k, own_d3_n k]
  · rw [own_d1_g (N (by omega)) (G (by omega))]
    by_cases k : r = (16 : Int32)
    · rw [own_d2_g k (N (by omega)) (G (by omega)), own_d3_g k (N (by omega)) (G (by omega))]
    · rw [own_d2_n k, own_d3_n k]
theorem own_good {c r : Int32} (hr : r = (10 : Int32) ∨ r = (16 : Int32)) (h : ¬ own_d1 c r = (-1 : Int32)) : ¬ own_d1 c r < (0 : Int32) ∧ own_d1 c r < r ∧ (own_lo (own_d1 c r).toNatClampNeg &&& (255 : Int32) = c ∨ own_up (own_d1 c r).toNatClampNeg &&& (255 : Int32) = c) := by
  by_cases q : 0 ≤ c.toInt ∧ c.toInt < 128
  · obtain ⟨n, rfl⟩ := own_small q.1 q.2
    rcases hr with rfl | rfl
    · exact (own_tab10 n).elim (fun z => absurd z h) id
    · exact (own_tab16 n).elim (fun z => absurd z h) id
  · exact absurd (own_none (by omega)) h
theorem own_k {d r : Int32} (hr : r = (10 : Int32) ∨ r = (16 : Int32)) : ¬ ((d &&& (2147483647 : Int32)) % r) < (0 : Int32) ∧ ((d &&& (2147483647 : Int32)) % r) < r := by
  have e : (d &&& (2147483647 : Int32)).toInt = d.toInt % 2 ^ 31 := Jvm.Kit.i32_mask d 2147483647 (k := 31) (by decide) (by decide)
  have q : ((d &&& (2147483647 : Int32)) % r).toInt = (d &&& (2147483647 : Int32)).toInt % r.toInt := Jvm.Kit.i32_rem_nonneg (by omega)
  have e0 : (0 : Int32).toInt = 0 := rfl
  have e10 : (10 : Int32).toInt = 10 := rfl
  have e16 : (16 : Int32).toInt = 16 := rfl
  rw [Int32.lt_iff_toInt_lt, Int32.lt_iff_toInt_lt]
  rcases hr with rfl | rfl
  · rw [e10] at *; omega
  · rw [e16] at *; omega
theorem own_readk {k r : Int32} (hr : r = (10 : Int32) ∨ r = (16 : Int32)) (h : ¬ k < (0 : Int32)) (g : k < r) : own_d1 (own_lo k.toNatClampNeg &&& (255 : Int32)) r = k ∧ own_d1 (own_up k.toNatClampNeg &&& (255 : Int32)) r = k := by
  have e0 : (0 : Int32).toInt = 0 := rfl
  have e10 : (10 : Int32).toInt = 10 := rfl
  have e16 : (16 : Int32).toInt = 16 := rfl
  rw [Int32.lt_iff_toInt_lt] at h g
  have e : Int32.ofNat k.toNatClampNeg = k := by
    apply Int32.toInt_inj.mp
    show (Int32.ofNat k.toInt.toNat).toInt = k.toInt
    have := k.toInt_lt
    rw [Int32.toInt_ofNat_of_lt (by omega)]; omega
  have hn : k.toNatClampNeg = k.toInt.toNat := rfl
  rcases hr with rfl | rfl
  · have t := (own_read ⟨k.toNatClampNeg, by omega⟩).1 (by show k.toNatClampNeg < 10; omega)
    rw [e] at t; exact t
  · have t := (own_read ⟨k.toNatClampNeg, by omega⟩).2
    rw [e] at t; exact t
theorem own_lt16 {k r : Int32} (hr : r = (10 : Int32) ∨ r = (16 : Int32)) (g : k < r) : k < (16 : Int32) := by
  rcases hr with rfl | rfl
  · exact Int32.lt_trans g (by decide)
  · exact g
section OwnTerms
variable {args : Array Value} {s : State}
theorem own_eqI {a : Term} {n : Int32} (h : (Jvm.Cond.eq a (.int n)).value args s none s [] = some true) : a.eval args s none [] s = some (.int n) := by
  obtain ⟨x, y, hx, hy, -, k2⟩ := cmp_v (Or.inl h)
  obtain rfl : y = .int n := (Option.some.inj hy).symm
  obtain ⟨z, rfl⟩ := k2
  rw [hx, gotT (Cond.eq_ints hx (Term.int_eval n)) h]
theorem own_eqR {a b : Term} {y : Addr} (hb : b.eval args s none [] s = some (.ref y)) (h : (Jvm.Cond.eq a b).value args s none s [] = some true) : a.eval args s none [] s = some (.ref y) := by
  obtain ⟨x, y', hx, hy, -, k2⟩ := cmp_v (Or.inl h)
  cases hb.symm.trans hy
  rw [hx, gotT (eq_R hx hb k2.2 rfl) h]
theorem own_fld {t : Term} {C n d : String} {a : Addr} {v : Value} (ht : t.eval args s none [] s = some (.ref a)) (h : (Term.field t C n d).eval args s none [] s = some v) : Fld s s.heap a C n d v := Fld.start ((fld_at ht).symm.trans h)
end OwnTerms
theorem own_length_eval {args : Array Value} {s : State} (t : Term) : (Term.length t).eval args s none [] s = (t.eval args s none [] s).bind fun v => match v with
    | .ref a => (s.arrayAt? a).bind fun c => if c.slots.size < 2 ^ 31 then some (.int c.slots.size.toInt32) else none
    | _ => none := rfl
theorem own_len {args : Array Value} {s : State} {t : Term} {a : Addr} {cl : Cell} {N : Int32} (ht : t.eval args s none [] s = some (.ref a)) (ha : s.arrayAt? a = some cl) (h : (Term.length t).eval args s none [] s = some (.int N)) : cl.slots.size = N.toNatClampNeg ∧ ¬ N < (0 : Int32) := by
  rcases Nat.lt_or_ge cl.slots.size (2 ^ 31) with q | q
  · have e := len_f ht ha q
    have e2 : cl.slots.size.toInt32 = N := Value.int.inj (Option.some.inj (e.symm.trans h))
    have e3 := len_toInt q
    subst e2
    refine ⟨?_, ?_⟩
    · show _ = (cl.slots.size.toInt32).toInt.toNat
      rw [e3]; rfl
    · rw [Int32.lt_iff_toInt_lt, e3]
      show ¬ (cl.slots.size : Int) < 0
      omega
  · have e : (Term.length t).eval args s none [] s = none := by
      rw [own_length_eval, ht]
      show (s.arrayAt? a).bind _ = none
      rw [ha]
      show (if cl.slots.size < 2 ^ 31 then _ else none) = none
      rw [if_neg (Nat.not_lt.mpr q)]
    rw [e] at h; cases h
open Jvm.Free.SB Jvm.Free.SBG in
/-- from the constants' assumed words to the library's bundle -/
theorem own_slOf {s : State} {a : Addr} {units : Array UInt16} (hl : units.all (· < 256) = true) (hbig : units.size < 2147483648) (hw : (latin1L units).all (fun w => w.before #[.ref a] s) = true)
    (harr : (Jvm.Cond.arrayClass .byte).before #[.ref a] s = true) (hins : (Jvm.Cond.instantiable "java/lang/String" 4).before #[.ref a] s = true) : SlOf s a units := by
  have W := fun w hm => List.all_eq_true.mp hw w hm
  have w1 := Cond.before_iff.mp (W (.exactly (.arg 0) "java/lang/String") (by simp [latin1L]))
  have w2 := Cond.before_iff.mp (W (.eq litC (.int 0)) (by simp [latin1L]))
  have w3 := Cond.before_iff.mp (W (.exactly litV "[B") (by simp [latin1L]))
  have w4 := Cond.before_iff.mp (W (.eq (.length litV) (.int (Int32.ofNat units.size))) (by simp [latin1L]))
  have w5 : ∀ j, j < units.size → (Jvm.Cond.eq (.elem litV (.int (Int32.ofNat j))) (.int (litByte (units.getD j 0)))).value #[.ref a] s none s [] = some true := fun j hj =>
    Cond.before_iff.mp (W _ (List.mem_append_right _ (List.mem_map.mpr ⟨j, List.mem_range.mpr hj, rfl⟩)))
  have ev0 : (Term.arg 0).eval #[.ref a] s none [] s = some (.ref a) := rfl
  obtain ⟨sC, kS, a1, a2, a3, a4, a5⟩ := Exa.start ev0 w1
  obtain ⟨v, ev⟩ := exa_v w3
  obtain ⟨SA, kB, b1, b2, b3, b4, -⟩ := Exa.start ev w3
  obtain ⟨x, c', e1, e2, -⟩ := Term.length_spec (own_eqI w4)
  cases ev.symm.trans e1
  obtain ⟨f1, f2, f3, -⟩ := State.arrayAt?_spec e2
  cases b1.symm.trans f1
  obtain ⟨sz, -⟩ := own_len ev e2 (own_eqI w4)
  have n1 : (Int32.ofNat units.size).toNatClampNeg = units.size := by
    show (Int32.ofNat units.size).toInt.toNat = _
    rw [Int32.toInt_ofNat_of_lt (by omega)]; rfl
  rw [n1] at sz
  obtain ⟨cV, cfV, kV, iV, fV, p1, p2, p3, p4, p5, p6, p7⟩ := own_fld (C := "java/lang/String") (n := "value") (d := "[B") ev0 ev
  obtain ⟨cC, cfC, kC, iC, fC, q1, q2, q3, q4, q5, q6, q7⟩ := own_fld (C := "java/lang/String") (n := "coder") (d := "B") ev0 (own_eqI w2)
  cases a1.symm.trans p1
  cases a1.symm.trans q1
  obtain ⟨cA, kA, comp, r1, r2, r3⟩ := Cond.arrayClass_spec harr
  have r1' : s.vm.findClass "[B" = some cA := r1
  cases b2.symm.trans r1'
  cases b3.symm.trans r2
  obtain ⟨cI, kI, t1, t2, t3, -⟩ := Cond.instantiable_spec hins
  cases a2.symm.trans t1
  cases a3.symm.trans t2
  have hat : ∀ j, j < units.size → SA.slots[j]? = some (.int (litByte (units.getD j 0))) := fun j hj => by
    have e := (elem_in (own_eqI (w5 j hj)) ev (Term.int_eval _) f1).2
    have n2 : (Int32.ofNat j).toNatClampNeg = j := by
      show (Int32.ofNat j).toInt.toNat = _
      rw [Int32.toInt_ofNat_of_lt (by omega)]; rfl
    rwa [n2] at e
  have hslots : SA.slots = stringBytes units := by
    rw [stringBytes_lat hl]
    apply Array.ext
    · rw [sz, Array.size_map]
    · intro j h1 h2
      have hj : j < units.size := by omega
      have e := hat j hj
      rw [Array.getElem?_eq_getElem h1] at e
      rw [Option.some.inj e, Array.getElem_map]
      simp [byteValue, litByte, Array.getD, hj]
  have hby : ∀ j, j < SA.slots.size → fits .byte (SA.slots.getD j .null) = true := fun j hj => by
    have hj' : j < units.size := by omega
    rw [Array.getD_eq_getD_getElem?, hat j hj']
    exact fits_byteValue _
  have hne : a ≠ v := fun q => by
    subst q
    cases a1.symm.trans f1
    cases a3.symm.trans b3
    rw [t3] at r3; cases r3
  exact ⟨(a, sC, fV, fC, v, SA, SA.slots.size), sC.cls, rfl,
    ⟨⟨a1, p4, p5, ⟨cfV, kV, iV, p2, p6⟩, ⟨cfC, kC, iC, q2, q6⟩, p3, q3, p7, q7, f1, ⟨(fun k h => by rw [h] at f3; cases f3), kB, b3, comp, r3⟩, f2, rfl, (by show SA.slots.size < 2 ^ 31; omega), hne, hby⟩, a2, rfl⟩,
    ⟨kS, a3, t3, a5 t3⟩, b2, hslots⟩
open Jvm.Free.SB Jvm.Free.SBG in
theorem own_held {s : State} {args : Array Value} {own text : String} {index : Nat} (h : constHeld s own index) (hlink : (Jvm.Cond.stringLink own index text).before args s = true) (ht : ∀ c ∈ text.toList, c.toNat < 256)
    (hcw : compactW.before #[] s = true) (harr : ∀ a, (Jvm.Cond.arrayClass .byte).before a s = true) (hins : ∀ a, (Jvm.Cond.instantiable "java/lang/String" 4).before a s = true) : ConstHeldL s own index := by
  intro c k cf i units a hc hk hcf hp hu hor
  obtain ⟨k', cf', i', units', hk', hcf', hp', hu', -, htext, -⟩ := Cond.stringLink_spec hc hlink
  cases hk.symm.trans hk'
  cases hcf.symm.trans hcf'
  cases hp.symm.trans hp'
  cases hu.symm.trans hu'
  have hl := Jvm.ClassFile.lat_of_text htext ht
  obtain ⟨hbig, hw⟩ := h c k cf i units a hc hk hcf hp hu hl hcw hor
  exact own_slOf hl hbig hw (harr _) (hins _)
open Jvm.Free.SB Jvm.Free.SBG in
/-- such a String, in the words of the walk's facts -/
theorem own_str {Z W : State} {a : Addr} {units : Array UInt16} (hal : W.vm.Alike Z.vm) (S : SlOf W a units) : ∃ (v : Addr) (cl : Cell), Exa Z W.heap a "java/lang/String" ∧ Fld Z W.heap a "java/lang/String" "coder" "B" (.int (0 : Int32)) ∧ Fld Z W.heap a "java/lang/String" "value" "[B" (.ref v) ∧ Arr Z W.heap v cl .byte ∧ cl.slots = stringBytes units := by
  obtain ⟨q, cS, rfl, ⟨⟨a1, p4, p5, x1, x2, p3, q3, p7, q7, f1, f4, f2, -, -, -, -⟩, s1, s2⟩, ⟨kS, k1, k2, k3⟩, -, hb⟩ := S
  obtain ⟨c1, k1', i1, y1, y2⟩ := found_asg hal x1
  obtain ⟨c2, k2', i2, z1, z2⟩ := found_asg hal x2
  obtain ⟨kS', hk', ek⟩ := hal.2.2 _ _ k1
  refine ⟨q.sd, q.SA, ⟨q.sC, kS', a1, by rw [hal.findClass, s2]; exact s1, by rw [s2]; exact hk', p5, fun _ => by rw [ek]; exact k3⟩, ⟨q.sC, c2, k2', i2, q.fSC, a1, z1, q3, p4, p5, z2, q7⟩, ⟨q.sC, c1, k1', i1, q.fSV, a1, y1, p3, p4, p5, y2, p7⟩, ⟨f1, State.isArrayOf_alike hal f4, f2⟩, hb⟩
theorem own_bytes {units : Array UInt16} {cl : Cell} {text : String} {f : Nat → Int32} (hb : cl.slots = stringBytes units) (hd : utf16ToString? units = some text) (ht : ∀ c ∈ text.toList, c.toNat < 256)
    (h16 : (stringBytes (text.toList.map (fun c => c.toNat.toUInt16)).toArray).size = 16) (hf : ∀ n : Fin 16, (stringBytes (text.toList.map (fun c => c.toNat.toUInt16)).toArray)[n.1]? = some (.int (f n.1))) :
    cl.slots.size = (16 : Int32).toNatClampNeg ∧ ∀ k : Int32, ¬ k < (0 : Int32) → k < (16 : Int32) → cl.slots[k.toNatClampNeg]? = some (.int (f k.toNatClampNeg)) := by
  have e := Jvm.Free.Str.bytes_of_text hd ht
  rw [hb, e]
  refine ⟨h16, fun k h g => ?_⟩
  have hk : k.toNatClampNeg < 16 := by
    rw [Int32.lt_iff_toInt_lt] at g
    have e16 : (16 : Int32).toInt = 16 := rfl
    show k.toInt.toNat < 16
    omega
  exact hf ⟨_, hk⟩
/-- from S the run comes to a return at which R holds -/
def Goes (p : Program) (e : Env) (below : List Frame) (R : State → Outcome → Prop) (S : State) : Prop := ∃ s₂ o, Steps p.tables e below S s₂ ∧ s₂.status = .running ∧ Ended s₂ below o ∧ R s₂ o
theorem Goes.step {p : Program} {e : Env} {below : List Frame} {R : State → Outcome → Prop} {S S' : State} (h : ∀ t, Steps p.tables e below S' t → Steps p.tables e below S t) (g : Goes p e below R S') : Goes p e below R S := by
  obtain ⟨s₂, o, h1, h2⟩ := g
  exact ⟨s₂, o, h _ h1, h2⟩
theorem dp_0 : decode jdk_41_method_11_code 0 = .ok (.iload_n 0, 1) := by decide +kernel
theorem dp_1 : decode jdk_41_method_11_code 1 = .ok (.ifCond .lt 8, 3) := by decide +kernel
theorem dp_4 : decode jdk_41_method_11_code 4 = .ok (.iload_n 0, 1) := by decide +kernel
theorem dp_5 : decode jdk_41_method_11_code 5 = .ok (.iload_n 1, 1) := by decide +kernel
theorem dp_6 : decode jdk_41_method_11_code 6 = .ok (.if_icmp .lt 10, 3) := by decide +kernel
theorem dp_16 : decode jdk_41_method_11_code 16 = .ok (.iload_n 0, 1) := by decide +kernel
theorem dp_17 : decode jdk_41_method_11_code 17 = .ok (.ireturn, 1) := by decide +kernel
theorem pn_p : plainName "jdk/internal/util/Preconditions" = true := by first | (simp [plainName, overriddenIn]; done) | decide +kernel
theorem pd_p : parseMethodDescriptor "(IILjava/util/function/BiFunction;)I" = some ⟨[.int, .int, (.object "java/util/function/BiFunction")], some .int⟩ := by decide +kernel
theorem ef_p (m : MethodId) (y0 : Int32) (y1 : Int32) (y2 : Addr) : entryFrame m #[(.int y0), (.int y1), (.ref y2)] 3 = mkF m 0 #[.val (.int y0), .val (.int y1), .val (.ref y2)] [] := by first | (simp [entryFrame, mkF, argsToLocals, Value.category]; done) | rfl
def Qp (Z : State) (p1 : Int32) (p2 : Int32) (a3 : Addr) (h0 : Heap) (n0 : Nat) (v : Option Value) (h : Heap) (L : List Loc) : Prop := v = some (.int p1) ∧ Fr n0 L ∧ h = h0
def Rp (Z : State) (p1 : Int32) (p2 : Int32) (a3 : Addr) (h0 : Heap) (n0 : Nat) (U : State) (U' : State) (o : Outcome) : Prop := ∃ v L, o = .returned v ∧ Qp Z p1 p2 a3 h0 n0 v U'.heap L ∧ FrameEnd U o U' L ({ frames := 0, cells := 0, slots := 0, locals := 0 } : Room).cells ({ frames := 0, cells := 0, slots := 0, locals := 0 } : Room).slots
set_option maxRecDepth 65536 in
set_option maxHeartbeats 40000000 in
theorem rmp (l : Launch) (Z : State) (a0 : Array Value) (hw : ∀ d ∈ tables_1, d.before a0 Z = true) (ws : List Jvm.Cond) (p1 : Int32) (p2 : Int32) (a3 : Addr) (h0 : Heap) (n0 : Nat) (Z0 : n0 ≤ h0.size) (c1 : ¬ p1 < (0 : Int32)) (c2 : p1 < p2) :
    MetFree l (⟨"jdk/internal/util/Preconditions", "checkIndex", "(IILjava/util/function/BiFunction;)I"⟩ : MethodName) (head1 (Jvm.Cond.code (⟨"jdk/internal/util/Preconditions", "checkIndex", "(IILjava/util/function/BiFunction;)I"⟩ : MethodName) jdk_41_method_11_code 3 (some .int) :: ws) ({ frames := 0, cells := 0, slots := 0, locals := 0 } : Room)) (fun a U => a = #[(.int p1), (.int p2), (.ref a3)] ∧ Z.Warmed39 U.vm ∧ U.heap = h0) (fun _ _ _ _ _ => True) (fun _ U o U' => ∃ v L, o = .returned v ∧ Qp Z p1 p2 a3 h0 n0 v U'.heap L ∧ FrameEnd U o U' L ({ frames := 0, cells := 0, slots := 0, locals := 0 } : Room).cells ({ frames := 0, cells := 0, slots := 0, locals := 0 } : Room).slots) := by
  refine MetFree.of_bodySF (plainFor_of_name pn_p) hisR ?_
  intro p e s m args below meth c s₁ Bd hml0 hP hK
  obtain ⟨rfl, hZ, hh⟩ := hP
  have hx := Bd.exec
  have hby := Bd.bytes
  have hml : c.maxLocals = 3 := hml0
  have hown : s.vm.findClass "jdk/internal/util/Preconditions" = some m.cls := findClass_of_methodNamed Bd.named
  have hnm := (name_of_methodNamed Bd.named Bd.method).1
  have X0 : Stand p l e ({ frames := 0, cells := 0, slots := 0, locals := 0 } : Room) s m #[(.int p1), (.int p2), (.ref a3)] below meth c s₁ [] 0 0 := Stand.of_body Bd
  have e0 : s₁.heap = h0 := by rw [← hh, Bd.state]; rfl
  have N0 := Fr.nil n0
  show Goes p e below (Rp Z p1 p2 a3 h0 n0 s) (s₁.setTop (entryFrame m #[(.int p1), (.int p2), (.ref a3)] 3))
  refine Goes.step (S' := s₁.setTop (mkF m 0 #[.val (.int p1), .val (.int p2), .val (.ref a3)] [])) (fun t k => castTop (ef_p m p1 p2 a3) k) ?_
  refine Goes.step (S' := s₁.setTop (mkF m 1 #[.val (.int p1), .val (.int p2), .val (.ref a3)] [(.int p1)])) (fun t k => XS.iloadN X0.here hx rfl (hb hby dp_0) rfl k) ?_
  refine Goes.step (S' := s₁.setTop (mkF m 4 #[.val (.int p1), .val (.int p2), .val (.ref a3)] [])) (fun t k => XS.ifNo X0.here hx rfl (hb hby dp_1) rfl ((if0 _ _).trans (flt c1).1) k) ?_
  refine Goes.step (S' := s₁.setTop (mkF m 5 #[.val (.int p1), .val (.int p2), .val (.ref a3)] [(.int p1)])) (fun t k => XS.iloadN X0.here hx rfl (hb hby dp_4) rfl k) ?_
  refine Goes.step (S' := s₁.setTop (mkF m 6 #[.val (.int p1), .val (.int p2), .val (.ref a3)] [(.int p2), (.int p1)])) (fun t k => XS.iloadN X0.here hx rfl (hb hby dp_5) rfl k) ?_
  refine Goes.step (S' := s₁.setTop (mkF m 16 #[.val (.int p1), .val (.int p2), .val (.ref a3)] [])) (fun t k => XS.icmpYes X0.here hx rfl (pc0 := 6) (pc' := 16) rfl (hb hby dp_6) rfl (tlt c2).1 (by decide) (by decide) k) ?_
  refine Goes.step (S' := s₁.setTop (mkF m 17 #[.val (.int p1), .val (.int p2), .val (.ref a3)] [(.int p1)])) (fun t k => XS.iloadN X0.here hx rfl (hb hby dp_16) rfl k) ?_
  obtain ⟨fs, hr, hrun, hended, hW, hsame⟩ := X0.leave (v := some (.int p1)) (fun h => by rw [Bd.returns] at h; cases h)
  exact ⟨_, _, retI X0 hx Bd.returns (hb hby dp_17) hr, hrun, hended, _, _, rfl, ⟨rfl, N0, e0⟩, ⟨_, rfl⟩, hW, hsame.mono (by decide) (by decide)⟩
theorem ef_rmpn (m : MethodId) (y0 : Int32) (y1 : Int32) : entryFrame m #[(.int y0), (.int y1), .null] 3 = mkF m 0 #[.val (.int y0), .val (.int y1), .val .null] [] := by first | (simp [entryFrame, mkF, argsToLocals, Value.category]; done) | rfl
def Qpn (Z : State) (p1 : Int32) (p2 : Int32) (h0 : Heap) (n0 : Nat) (v : Option Value) (h : Heap) (L : List Loc) : Prop := v = some (.int p1) ∧ Fr n0 L ∧ h = h0
def Rpn (Z : State) (p1 : Int32) (p2 : Int32) (h0 : Heap) (n0 : Nat) (U : State) (U' : State) (o : Outcome) : Prop := ∃ v L, o = .returned v ∧ Qpn Z p1 p2 h0 n0 v U'.heap L ∧ FrameEnd U o U' L ({ frames := 0, cells := 0, slots := 0, locals := 0 } : Room).cells ({ frames := 0, cells := 0, slots := 0, locals := 0 } : Room).slots
set_option maxRecDepth 65536 in
set_option maxHeartbeats 40000000 in
theorem rmpn (l : Launch) (Z : State) (a0 : Array Value) (hw : ∀ d ∈ tables_1, d.before a0 Z = true) (ws : List Jvm.Cond) (p1 : Int32) (p2 : Int32) (h0 : Heap) (n0 : Nat) (Z0 : n0 ≤ h0.size) (c1 : ¬ p1 < (0 : Int32)) (c2 : p1 < p2) :
    MetFree l (⟨"jdk/internal/util/Preconditions", "checkIndex", "(IILjava/util/function/BiFunction;)I"⟩ : MethodName) (head1 (Jvm.Cond.code (⟨"jdk/internal/util/Preconditions", "checkIndex", "(IILjava/util/function/BiFunction;)I"⟩ : MethodName) jdk_41_method_11_code 3 (some .int) :: ws) ({ frames := 0, cells := 0, slots := 0, locals := 0 } : Room)) (fun a U => a = #[(.int p1), (.int p2), .null] ∧ Z.Warmed39 U.vm ∧ U.heap = h0) (fun _ _ _ _ _ => True) (fun _ U o U' => ∃ v L, o = .returned v ∧ Qpn Z p1 p2 h0 n0 v U'.heap L ∧ FrameEnd U o U' L ({ frames := 0, cells := 0, slots := 0, locals := 0 } : Room).cells ({ frames := 0, cells := 0, slots := 0, locals := 0 } : Room).slots) := by
  refine MetFree.of_bodySF (plainFor_of_name pn_p) hisR ?_
  intro p e s m args below meth c s₁ Bd hml0 hP hK
  obtain ⟨rfl, hZ, hh⟩ := hP
  have hx := Bd.exec
  have hby := Bd.bytes
  have hml : c.maxLocals = 3 := hml0
  have hown : s.vm.findClass "jdk/internal/util/Preconditions" = some m.cls := findClass_of_methodNamed Bd.named
  have hnm := (name_of_methodNamed Bd.named Bd.method).1
  have X0 : Stand p l e ({ frames := 0, cells := 0, slots := 0, locals := 0 } : Room) s m #[(.int p1), (.int p2), .null] below meth c s₁ [] 0 0 := Stand.of_body Bd
  have e0 : s₁.heap = h0 := by rw [← hh, Bd.state]; rfl
  have N0 := Fr.nil n0
  show Goes p e below (Rpn Z p1 p2 h0 n0 s) (s₁.setTop (entryFrame m #[(.int p1), (.int p2), .null] 3))
  refine Goes.step (S' := s₁.setTop (mkF m 0 #[.val (.int p1), .val (.int p2), .val .null] [])) (fun t k => castTop (ef_rmpn m p1 p2) k) ?_
  refine Goes.step (S' := s₁.setTop (mkF m 1 #[.val (.int p1), .val (.int p2), .val .null] [(.int p1)])) (fun t k => XS.iloadN X0.here hx rfl (hb hby dp_0) rfl k) ?_
  refine Goes.step (S' := s₁.setTop (mkF m 4 #[.val (.int p1), .val (.int p2), .val .null] [])) (fun t k => XS.ifNo X0.here hx rfl (hb hby dp_1) rfl ((if0 _ _).trans (flt c1).1) k) ?_
  refine Goes.step (S' := s₁.setTop (mkF m 5 #[.val (.int p1), .val (.int p2), .val .null] [(.int p1)])) (fun t k => XS.iloadN X0.here hx rfl (hb hby dp_4) rfl k) ?_
  refine Goes.step (S' := s₁.setTop (mkF m 6 #[.val (.int p1), .val (.int p2), .val .null] [(.int p2), (.int p1)])) (fun t k => XS.iloadN X0.here hx rfl (hb hby dp_5) rfl k) ?_
  refine Goes.step (S' := s₁.setTop (mkF m 16 #[.val (.int p1), .val (.int p2), .val .null] [])) (fun t k => XS.icmpYes X0.here hx rfl (pc0 := 6) (pc' := 16) rfl (hb hby dp_6) rfl (tlt c2).1 (by decide) (by decide) k) ?_
  refine Goes.step (S' := s₁.setTop (mkF m 17 #[.val (.int p1), .val (.int p2), .val .null] [(.int p1)])) (fun t k => XS.iloadN X0.here hx rfl (hb hby dp_16) rfl k) ?_
  obtain ⟨fs, hr, hrun, hended, hW, hsame⟩ := X0.leave (v := some (.int p1)) (fun h => by rw [Bd.returns] at h; cases h)
  exact ⟨_, _, retI X0 hx Bd.returns (hb hby dp_17) hr, hrun, hended, _, _, rfl, ⟨rfl, N0, e0⟩, ⟨_, rfl⟩, hW, hsame.mono (by decide) (by decide)⟩
theorem dci_0 : decode jdk_42_method_155_code 0 = .ok (.iload_n 0, 1) := by decide +kernel
theorem dci_1 : decode jdk_42_method_155_code 1 = .ok (.iload_n 1, 1) := by decide +kernel
theorem dci_2 : decode jdk_42_method_155_code 2 = .ok (.getstatic 1053, 3) := by decide +kernel
theorem dci_5 : decode jdk_42_method_155_code 5 = .ok (.invokestatic 1059, 3) := by decide +kernel
theorem dci_8 : decode jdk_42_method_155_code 8 = .ok (.pop, 1) := by decide +kernel
theorem dci_9 : decode jdk_42_method_155_code 9 = .ok (.return_, 1) := by decide +kernel
theorem pn_ci : plainName "java/lang/String" = true := by first | (simp [plainName, overriddenIn]; done) | decide +kernel
theorem pd_ci : parseMethodDescriptor "(II)V" = some ⟨[.int, .int], none⟩ := by decide +kernel
theorem ef_ci (m : MethodId) (y0 : Int32) (y1 : Int32) : entryFrame m #[(.int y0), (.int y1)] 2 = mkF m 0 #[.val (.int y0), .val (.int y1)] [] := by first | (simp [entryFrame, mkF, argsToLocals, Value.category]; done) | rfl
def Qci (Z : State) (p1 : Int32) (p2 : Int32) (vF : Value) (h0 : Heap) (n0 : Nat) (v : Option Value) (h : Heap) (L : List Loc) : Prop := v = none ∧ Fr n0 L ∧ h = h0
def Rci (Z : State) (p1 : Int32) (p2 : Int32) (vF : Value) (h0 : Heap) (n0 : Nat) (U : State) (U' : State) (o : Outcome) : Prop := ∃ v L, o = .returned v ∧ Qci Z p1 p2 vF h0 n0 v U'.heap L ∧ FrameEnd U o U' L ({ frames := 1, cells := 0, slots := 0, locals := 14 } : Room).cells ({ frames := 1, cells := 0, slots := 0, locals := 14 } : Room).slots
set_option maxRecDepth 65536 in
set_option maxHeartbeats 40000000 in
theorem rmci (l : Launch) (Z : State) (a0 : Array Value) (hw : ∀ d ∈ tables_1, d.before a0 Z = true) (ws : List Jvm.Cond) (p1 : Int32) (p2 : Int32) (vF : Value) (h0 : Heap) (n0 : Nat) (Z0 : n0 ≤ h0.size) (SF : Sta Z h0 "jdk/internal/util/Preconditions" "SIOOBE_FORMATTER" "Ljava/util/function/BiFunction;" vF) (hF : vF.isRef = true) (c1 : ¬ p1 < (0 : Int32)) (c2 : p1 < p2) :
    MetFree l (⟨"java/lang/String", "checkIndex", "(II)V"⟩ : MethodName) (head1 (Jvm.Cond.code (⟨"java/lang/String", "checkIndex", "(II)V"⟩ : MethodName) jdk_42_method_155_code 2 none :: ws) ({ frames := 1, cells := 0, slots := 0, locals := 14 } : Room)) (fun a U => a = #[(.int p1), (.int p2)] ∧ Z.Warmed39 U.vm ∧ U.heap = h0) (fun _ _ _ _ _ => True) (fun _ U o U' => ∃ v L, o = .returned v ∧ Qci Z p1 p2 vF h0 n0 v U'.heap L ∧ FrameEnd U o U' L ({ frames := 1, cells := 0, slots := 0, locals := 14 } : Room).cells ({ frames := 1, cells := 0, slots := 0, locals := 14 } : Room).slots) := by
  refine MetFree.of_bodySF (plainFor_of_name pn_ci) hisR ?_
  intro p e s m args below meth c s₁ Bd hml0 hP hK
  obtain ⟨rfl, hZ, hh⟩ := hP
  have hx := Bd.exec
  have hby := Bd.bytes
  have hml : c.maxLocals = 2 := hml0
  have hown : s.vm.findClass "java/lang/String" = some m.cls := findClass_of_methodNamed Bd.named
  have hnm := (name_of_methodNamed Bd.named Bd.method).1
  have X0 : Stand p l e ({ frames := 1, cells := 0, slots := 0, locals := 14 } : Room) s m #[(.int p1), (.int p2)] below meth c s₁ [] 0 0 := Stand.of_body Bd
  have e0 : s₁.heap = h0 := by rw [← hh, Bd.state]; rfl
  have N0 := Fr.nil n0
  show Goes p e below (Rci Z p1 p2 vF h0 n0 s) (s₁.setTop (entryFrame m #[(.int p1), (.int p2)] 2))
  refine Goes.step (S' := s₁.setTop (mkF m 0 #[.val (.int p1), .val (.int p2)] [])) (fun t k => castTop (ef_ci m p1 p2) k) ?_
  rcases ref_cases hF with rfl | ⟨a3, rfl⟩
  · refine Goes.step (S' := s₁.setTop (mkF m 1 #[.val (.int p1), .val (.int p2)] [(.int p1)])) (fun t k => XS.iloadN X0.here hx rfl (hb hby dci_0) rfl k) ?_
    refine Goes.step (S' := s₁.setTop (mkF m 2 #[.val (.int p1), .val (.int p2)] [(.int p2), (.int p1)])) (fun t k => XS.iloadN X0.here hx rfl (hb hby dci_1) rfl k) ?_
    obtain ⟨T1, X1, e1, st1⟩ := getS X0 hx hZ (host := "") hown (hw _ (List.mem_of_getElem? (i := 30) rfl)) Via.refl e0 SF (g := (mkF m 2 #[.val (.int p1), .val (.int p2)] [(.int p2), (.int p1)])) rfl (hb hby dci_2)
    refine Goes.step (S' := T1.setTop (mkF m 5 #[.val (.int p1), .val (.int p2)] [.null, (.int p2), (.int p1)])) (fun t k => st1 t k) ?_
    obtain ⟨_, _, ⟨T2, L2, k2, n2⟩, -, X2, ⟨Lc2, hQ2, l2, y2, z2⟩, st2⟩ := Jvm.LawKit.callS X1 hx (y := (⟨"jdk/internal/util/Preconditions", "checkIndex", "(IILjava/util/function/BiFunction;)I"⟩ : MethodName)) hown (mvT hZ (hw _ (List.mem_of_getElem? (i := 32) rfl))) (mvT hZ (hw _ (List.mem_of_getElem? (i := 33) rfl))) (mvT hZ (hw _ (List.mem_of_getElem? (i := 31) rfl))) (mvT hZ (hw _ (List.mem_of_getElem? (i := 34) rfl))) (by decide) (backOf (W := 0) (rmpn l Z a0 hw [] p1 p2 h0 n0 Z0 c1 c2) hZ (hw _ (List.mem_of_getElem? (i := 34) rfl)) (hw _ (List.mem_of_getElem? (i := 31) rfl)) (by decide) (by decide)) (g := (mkF m 5 #[.val (.int p1), .val (.int p2)] [.null, (.int p2), (.int p1)])) rfl (by rw [hml]; rfl) (argsL := [(.int p1), (.int p2), .null]) (rest := []) (lenOf pd_p rfl) rfl (by show 2 * 0 + _ ≤ _; exact Nat.le_of_eq rfl) (hb hby dci_5) (fun _ _ => ⟨rfl, e1, (by decide : 0 + 0 ≤ _), (by decide : 0 + 0 ≤ _)⟩)
    dsimp only [Pt.U, Pt.locs, Pt.cells, Pt.slots] at X2 l2 y2 z2 st2 hQ2
    subst l2 y2 z2
    obtain ⟨rfl, N2q, e2⟩ := hQ2
    have N2 := Fr.app N0 N2q
    refine Goes.step (S' := T2.setTop (mkF m 8 #[.val (.int p1), .val (.int p2)] [(.int p1)])) (fun t k => st2 t k) ?_
    refine Goes.step (S' := T2.setTop (mkF m 9 #[.val (.int p1), .val (.int p2)] [])) (fun t k => XS.pop X2.here hx rfl (hb hby dci_8) rfl rfl k) ?_
    obtain ⟨fs, hr, hrun, hended, hW, hsame⟩ := X2.leave (v := none) (fun _ => rfl)
    exact ⟨_, _, X2.returnOut hx Bd.returns (hb hby dci_9) hr, hrun, hended, _, _, rfl, ⟨rfl, N2, e2⟩, ⟨_, rfl⟩, hW, hsame.mono (by decide) (by decide)⟩
  · refine Goes.step (S' := s₁.setTop (mkF m 1 #[.val (.int p1), .val (.int p2)] [(.int p1)])) (fun t k => XS.iloadN X0.here hx rfl (hb hby dci_0) rfl k) ?_
    refine Goes.step (S' := s₁.setTop (mkF m 2 #[.val (.int p1), .val (.int p2)] [(.int p2), (.int p1)])) (fun t k => XS.iloadN X0.here hx rfl (hb hby dci_1) rfl k) ?_
    obtain ⟨T3, X3, e3, st3⟩ := getS X0 hx hZ (host := "") hown (hw _ (List.mem_of_getElem? (i := 30) rfl)) Via.refl e0 SF (g := (mkF m 2 #[.val (.int p1), .val (.int p2)] [(.int p2), (.int p1)])) rfl (hb hby dci_2)
    refine Goes.step (S' := T3.setTop (mkF m 5 #[.val (.int p1), .val (.int p2)] [(.ref a3), (.int p2), (.int p1)])) (fun t k => st3 t k) ?_
    obtain ⟨_, _, ⟨T4, L4, k4, n4⟩, -, X4, ⟨Lc4, hQ4, l4, y4, z4⟩, st4⟩ := Jvm.LawKit.callS X3 hx (y := (⟨"jdk/internal/util/Preconditions", "checkIndex", "(IILjava/util/function/BiFunction;)I"⟩ : MethodName)) hown (mvT hZ (hw _ (List.mem_of_getElem? (i := 32) rfl))) (mvT hZ (hw _ (List.mem_of_getElem? (i := 33) rfl))) (mvT hZ (hw _ (List.mem_of_getElem? (i := 31) rfl))) (mvT hZ (hw _ (List.mem_of_getElem? (i := 34) rfl))) (by decide) (backOf (W := 0) (rmp l Z a0 hw [] p1 p2 a3 h0 n0 Z0 c1 c2) hZ (hw _ (List.mem_of_getElem? (i := 34) rfl)) (hw _ (List.mem_of_getElem? (i := 31) rfl)) (by decide) (by decide)) (g := (mkF m 5 #[.val (.int p1), .val (.int p2)] [(.ref a3), (.int p2), (.int p1)])) rfl (by rw [hml]; rfl) (argsL := [(.int p1), (.int p2), (.ref a3)]) (rest := []) (lenOf pd_p rfl) rfl (by show 2 * 0 + _ ≤ _; exact Nat.le_of_eq rfl) (hb hby dci_5) (fun _ _ => ⟨rfl, e3, (by decide : 0 + 0 ≤ _), (by decide : 0 + 0 ≤ _)⟩)
    dsimp only [Pt.U, Pt.locs, Pt.cells, Pt.slots] at X4 l4 y4 z4 st4 hQ4
    subst l4 y4 z4
    obtain ⟨rfl, N4q, e4⟩ := hQ4
    have N4 := Fr.app N0 N4q
    refine Goes.step (S' := T4.setTop (mkF m 8 #[.val (.int p1), .val (.int p2)] [(.int p1)])) (fun t k => st4 t k) ?_
    refine Goes.step (S' := T4.setTop (mkF m 9 #[.val (.int p1), .val (.int p2)] [])) (fun t k => XS.pop X4.here hx rfl (hb hby dci_8) rfl rfl k) ?_
    obtain ⟨fs, hr, hrun, hended, hW, hsame⟩ := X4.leave (v := none) (fun _ => rfl)
    exact ⟨_, _, X4.returnOut hx Bd.returns (hb hby dci_9) hr, hrun, hended, _, _, rfl, ⟨rfl, N4, e4⟩, ⟨_, rfl⟩, hW, hsame.mono (by decide) (by decide)⟩
theorem dla_0 : decode jdk_43_method_2_code 0 = .ok (.iload_n 1, 1) := by decide +kernel
theorem dla_1 : decode jdk_43_method_2_code 1 = .ok (.aload_n 0, 1) := by decide +kernel
theorem dla_2 : decode jdk_43_method_2_code 2 = .ok (.arraylength, 1) := by decide +kernel
theorem dla_3 : decode jdk_43_method_2_code 3 = .ok (.invokestatic 9, 3) := by decide +kernel
theorem dla_6 : decode jdk_43_method_2_code 6 = .ok (.aload_n 0, 1) := by decide +kernel
theorem dla_7 : decode jdk_43_method_2_code 7 = .ok (.iload_n 1, 1) := by decide +kernel
theorem dla_8 : decode jdk_43_method_2_code 8 = .ok (.baload, 1) := by decide +kernel
theorem dla_9 : decode jdk_43_method_2_code 9 = .ok (.sipush 255, 3) := by decide +kernel
theorem dla_12 : decode jdk_43_method_2_code 12 = .ok (.iand, 1) := by decide +kernel
theorem dla_13 : decode jdk_43_method_2_code 13 = .ok (.i2c, 1) := by decide +kernel
theorem dla_14 : decode jdk_43_method_2_code 14 = .ok (.ireturn, 1) := by decide +kernel
theorem pn_la : plainName "java/lang/StringLatin1" = true := by first | (simp [plainName, overriddenIn]; done) | decide +kernel
theorem pd_la : parseMethodDescriptor "([BI)C" = some ⟨[(.array .byte), .int], some .char⟩ := by decide +kernel
theorem ef_la (m : MethodId) (y0 : Addr) (y1 : Int32) : entryFrame m #[(.ref y0), (.int y1)] 2 = mkF m 0 #[.val (.ref y0), .val (.int y1)] [] := by first | (simp [entryFrame, mkF, argsToLocals, Value.category]; done) | rfl
def Qla (Z : State) (a3 : Addr) (p2 : Int32) (N : Int32) (b' : Int32) (cl : Cell) (vF : Value) (h0 : Heap) (n0 : Nat) (v : Option Value) (h : Heap) (L : List Loc) : Prop := v = some (.int (b' &&& (255 : Int32))) ∧ Fr n0 L ∧ h = h0
def Rla (Z : State) (a3 : Addr) (p2 : Int32) (N : Int32) (b' : Int32) (cl : Cell) (vF : Value) (h0 : Heap) (n0 : Nat) (U : State) (U' : State) (o : Outcome) : Prop := ∃ v L, o = .returned v ∧ Qla Z a3 p2 N b' cl vF h0 n0 v U'.heap L ∧ FrameEnd U o U' L ({ frames := 2, cells := 0, slots := 0, locals := 27 } : Room).cells ({ frames := 2, cells := 0, slots := 0, locals := 27 } : Room).slots
set_option maxRecDepth 65536 in
set_option maxHeartbeats 40000000 in
theorem rmla (l : Launch) (Z : State) (a0 : Array Value) (hw : ∀ d ∈ tables_1, d.before a0 Z = true) (ws : List Jvm.Cond) (a3 : Addr) (p2 : Int32) (N : Int32) (b' : Int32) (cl : Cell) (vF : Value) (h0 : Heap) (n0 : Nat) (Z0 : n0 ≤ h0.size) (SF : Sta Z h0 "jdk/internal/util/Preconditions" "SIOOBE_FORMATTER" "Ljava/util/function/BiFunction;" vF) (hF : vF.isRef = true) (Ar : Arr Z h0 a3 cl .byte) (Sz : cl.slots.size = N.toNatClampNeg) (hN : ¬ N < (0 : Int32)) (c1 : ¬ p2 < (0 : Int32)) (c2 : p2 < N) (hb' : cl.slots[p2.toNatClampNeg]? = some (.int b')) :
    MetFree l (⟨"java/lang/StringLatin1", "charAt", "([BI)C"⟩ : MethodName) (head1 (Jvm.Cond.code (⟨"java/lang/StringLatin1", "charAt", "([BI)C"⟩ : MethodName) jdk_43_method_2_code 2 (some .char) :: ws) ({ frames := 2, cells := 0, slots := 0, locals := 27 } : Room)) (fun a U => a = #[(.ref a3), (.int p2)] ∧ Z.Warmed39 U.vm ∧ U.heap = h0) (fun _ _ _ _ _ => True) (fun _ U o U' => ∃ v L, o = .returned v ∧ Qla Z a3 p2 N b' cl vF h0 n0 v U'.heap L ∧ FrameEnd U o U' L ({ frames := 2, cells := 0, slots := 0, locals := 27 } : Room).cells ({ frames := 2, cells := 0, slots := 0, locals := 27 } : Room).slots) := by
  refine MetFree.of_bodySF (plainFor_of_name pn_la) hisR ?_
  intro p e s m args below meth c s₁ Bd hml0 hP hK
  obtain ⟨rfl, hZ, hh⟩ := hP
  have hx := Bd.exec
  have hby := Bd.bytes
  have hml : c.maxLocals = 2 := hml0
  have hown : s.vm.findClass "java/lang/StringLatin1" = some m.cls := findClass_of_methodNamed Bd.named
  have hnm := (name_of_methodNamed Bd.named Bd.method).1
  have X0 : Stand p l e ({ frames := 2, cells := 0, slots := 0, locals := 27 } : Room) s m #[(.ref a3), (.int p2)] below meth c s₁ [] 0 0 := Stand.of_body Bd
  have e0 : s₁.heap = h0 := by rw [← hh, Bd.state]; rfl
  have N0 := Fr.nil n0
  show Goes p e below (Rla Z a3 p2 N b' cl vF h0 n0 s) (s₁.setTop (entryFrame m #[(.ref a3), (.int p2)] 2))
  refine Goes.step (S' := s₁.setTop (mkF m 0 #[.val (.ref a3), .val (.int p2)] [])) (fun t k => castTop (ef_la m a3 p2) k) ?_
  refine Goes.step (S' := s₁.setTop (mkF m 1 #[.val (.ref a3), .val (.int p2)] [(.int p2)])) (fun t k => XS.iloadN X0.here hx rfl (hb hby dla_0) rfl k) ?_
  refine Goes.step (S' := s₁.setTop (mkF m 2 #[.val (.ref a3), .val (.int p2)] [(.ref a3), (.int p2)])) (fun t k => XS.aloadN X0.here hx rfl (hb hby dla_1) rfl rfl k) ?_
  refine Goes.step (S' := s₁.setTop (mkF m 3 #[.val (.ref a3), .val (.int p2)] [(.int N), (.int p2)])) (fun t k => X0.arraylength hx (by rw [e0]; exact Ar.1) (State.isArrayOf_alike hZ.alike Ar.2.1) (g := (mkF m 2 #[.val (.ref a3), .val (.int p2)] [(.ref a3), (.int p2)])) rfl rfl (hb hby dla_2) _ (by rw [len_of Sz hN]; exact k)) ?_
  obtain ⟨_, _, ⟨T5, L5, k5, n5⟩, -, X5, ⟨Lc5, hQ5, l5, y5, z5⟩, st5⟩ := Jvm.LawKit.callS X0 hx (y := (⟨"java/lang/String", "checkIndex", "(II)V"⟩ : MethodName)) hown (mvT hZ (hw _ (List.mem_of_getElem? (i := 27) rfl))) (mvT hZ (hw _ (List.mem_of_getElem? (i := 28) rfl))) (mvT hZ (hw _ (List.mem_of_getElem? (i := 1) rfl))) (mvT hZ (hw _ (List.mem_of_getElem? (i := 29) rfl))) (by decide) (backOf (W := 0) (rmci l Z a0 hw [] p2 N vF h0 n0 Z0 SF hF c1 c2) hZ (hw _ (List.mem_of_getElem? (i := 29) rfl)) (hw _ (List.mem_of_getElem? (i := 1) rfl)) (by decide) (by decide)) (g := (mkF m 3 #[.val (.ref a3), .val (.int p2)] [(.int N), (.int p2)])) rfl (by rw [hml]; rfl) (argsL := [(.int p2), (.int N)]) (rest := []) (lenOf pd_ci rfl) rfl (by show 2 * 0 + _ ≤ _; exact Nat.le_of_eq rfl) (hb hby dla_3) (fun _ _ => ⟨rfl, e0, (by decide : 0 + 0 ≤ _), (by decide : 0 + 0 ≤ _)⟩)
  dsimp only [Pt.U, Pt.locs, Pt.cells, Pt.slots] at X5 l5 y5 z5 st5 hQ5
  subst l5 y5 z5
  obtain ⟨rfl, N5q, e5⟩ := hQ5
  have N5 := Fr.app N0 N5q
  refine Goes.step (S' := T5.setTop (mkF m 6 #[.val (.ref a3), .val (.int p2)] [])) (fun t k => st5 t k) ?_
  refine Goes.step (S' := T5.setTop (mkF m 7 #[.val (.ref a3), .val (.int p2)] [(.ref a3)])) (fun t k => XS.aloadN X5.here hx rfl (hb hby dla_6) rfl rfl k) ?_
  refine Goes.step (S' := T5.setTop (mkF m 8 #[.val (.ref a3), .val (.int p2)] [(.int p2), (.ref a3)])) (fun t k => XS.iloadN X5.here hx rfl (hb hby dla_7) rfl k) ?_
  refine Goes.step (S' := T5.setTop (mkF m 9 #[.val (.ref a3), .val (.int p2)] [(.int b')])) (fun t k => X5.baloadBytes hx (j := p2) (v := (.int b')) (by rw [e5]; exact Ar.1) (State.isArrayOf_alike hZ.alike Ar.2.1) Ar.2.2 (inb_of Sz ⟨c1, c2⟩) hb' (g := (mkF m 8 #[.val (.ref a3), .val (.int p2)] [(.int p2), (.ref a3)])) rfl rfl (hb hby dla_8) _ k) ?_
  refine Goes.step (S' := T5.setTop (mkF m 12 #[.val (.ref a3), .val (.int p2)] [(.int (255 : Int32)), (.int b')])) (fun t k => XS.sipush X5.here hx rfl (hb hby dla_9) k) ?_
  refine Goes.step (S' := T5.setTop (mkF m 13 #[.val (.ref a3), .val (.int p2)] [(.int (b' &&& (255 : Int32)))])) (fun t k => XS.iand X5.here hx rfl (hb hby dla_12) rfl k) ?_
  refine Goes.step (S' := T5.setTop (mkF m 14 #[.val (.ref a3), .val (.int p2)] [(.int (b' &&& (255 : Int32)))])) (fun t k => XS.i2c X5.here hx rfl (hb hby dla_13) rfl (by rw [i2c_mask]; exact k)) ?_
  obtain ⟨fs, hr, hrun, hended, hW, hsame⟩ := X5.leave (v := some (.int (nar .char (b' &&& (255 : Int32))))) (fun h => by rw [Bd.returns] at h; cases h)
  exact ⟨_, _, retN X5 hx (t := .char) Bd.returns (by simp) (hb hby dla_14) hr, hrun, hended, _, _, rfl, ⟨congrArg (fun z => some (Value.int z)) (i2c_mask b'), N5, e5⟩, ⟨_, rfl⟩, hW, hsame.mono (by decide) (by decide)⟩
theorem dil_0 : decode jdk_42_method_154_code 0 = .ok (.getstatic 38, 3) := by decide +kernel
theorem dil_3 : decode jdk_42_method_154_code 3 = .ok (.ifCond .eq 14, 3) := by decide +kernel
theorem dil_6 : decode jdk_42_method_154_code 6 = .ok (.aload_n 0, 1) := by decide +kernel
theorem dil_7 : decode jdk_42_method_154_code 7 = .ok (.getfield 15, 3) := by decide +kernel
theorem dil_10 : decode jdk_42_method_154_code 10 = .ok (.ifCond .ne 7, 3) := by decide +kernel
theorem dil_13 : decode jdk_42_method_154_code 13 = .ok (.iconst 1, 1) := by decide +kernel
theorem dil_14 : decode jdk_42_method_154_code 14 = .ok (.goto 4, 3) := by decide +kernel
theorem dil_17 : decode jdk_42_method_154_code 17 = .ok (.iconst 0, 1) := by decide +kernel
theorem dil_18 : decode jdk_42_method_154_code 18 = .ok (.ireturn, 1) := by decide +kernel
theorem pn_il : plainName "java/lang/String" = true := by first | (simp [plainName, overriddenIn]; done) | decide +kernel
theorem pd_il : parseMethodDescriptor "()Z" = some ⟨[], some .boolean⟩ := by decide +kernel
theorem ef_il (m : MethodId) (y0 : Addr) : entryFrame m #[(.ref y0)] 1 = mkF m 0 #[.val (.ref y0)] [] := by first | (simp [entryFrame, mkF, argsToLocals, Value.category]; done) | rfl
def Qil (Z : State) (a1 : Addr) (cs : Int32) (h0 : Heap) (n0 : Nat) (v : Option Value) (h : Heap) (L : List Loc) : Prop := v = some (.int 1) ∧ Fr n0 L ∧ h = h0
def Ril (Z : State) (a1 : Addr) (cs : Int32) (h0 : Heap) (n0 : Nat) (U : State) (U' : State) (o : Outcome) : Prop := ∃ v L, o = .returned v ∧ Qil Z a1 cs h0 n0 v U'.heap L ∧ FrameEnd U o U' L ({ frames := 0, cells := 0, slots := 0, locals := 0 } : Room).cells ({ frames := 0, cells := 0, slots := 0, locals := 0 } : Room).slots
set_option maxRecDepth 65536 in
set_option maxHeartbeats 40000000 in
theorem rmil (l : Launch) (Z : State) (a0 : Array Value) (hw : ∀ d ∈ tables_1, d.before a0 Z = true) (ws : List Jvm.Cond) (a1 : Addr) (cs : Int32) (h0 : Heap) (n0 : Nat) (Z0 : n0 ≤ h0.size) (SC : Sta Z h0 "java/lang/String" "COMPACT_STRINGS" "Z" (.int cs)) (hcs : ¬ cs = (0 : Int32)) (Fc : (Fld Z h0 a1 "java/lang/String" "coder" "B" (.int (0 : Int32)))) :
    MetFree l (⟨"java/lang/String", "isLatin1", "()Z"⟩ : MethodName) (head1 (Jvm.Cond.code (⟨"java/lang/String", "isLatin1", "()Z"⟩ : MethodName) jdk_42_method_154_code 1 (some .boolean) :: ws) ({ frames := 0, cells := 0, slots := 0, locals := 0 } : Room)) (fun a U => a = #[(.ref a1)] ∧ Z.Warmed39 U.vm ∧ U.heap = h0) (fun _ _ _ _ _ => True) (fun _ U o U' => ∃ v L, o = .returned v ∧ Qil Z a1 cs h0 n0 v U'.heap L ∧ FrameEnd U o U' L ({ frames := 0, cells := 0, slots := 0, locals := 0 } : Room).cells ({ frames := 0, cells := 0, slots := 0, locals := 0 } : Room).slots) := by
  refine MetFree.of_bodySF (plainFor_of_name pn_il) hisR ?_
  intro p e s m args below meth c s₁ Bd hml0 hP hK
  obtain ⟨rfl, hZ, hh⟩ := hP
  have hx := Bd.exec
  have hby := Bd.bytes
  have hml : c.maxLocals = 1 := hml0
  have hown : s.vm.findClass "java/lang/String" = some m.cls := findClass_of_methodNamed Bd.named
  have hnm := (name_of_methodNamed Bd.named Bd.method).1
  have X0 : Stand p l e ({ frames := 0, cells := 0, slots := 0, locals := 0 } : Room) s m #[(.ref a1)] below meth c s₁ [] 0 0 := Stand.of_body Bd
  have e0 : s₁.heap = h0 := by rw [← hh, Bd.state]; rfl
  have N0 := Fr.nil n0
  show Goes p e below (Ril Z a1 cs h0 n0 s) (s₁.setTop (entryFrame m #[(.ref a1)] 1))
  refine Goes.step (S' := s₁.setTop (mkF m 0 #[.val (.ref a1)] [])) (fun t k => castTop (ef_il m a1) k) ?_
  obtain ⟨T6, X6, e6, st6⟩ := getS X0 hx hZ (host := "") hown (hw _ (List.mem_of_getElem? (i := 20) rfl)) Via.refl e0 SC (g := (mkF m 0 #[.val (.ref a1)] [])) rfl (hb hby dil_0)
  refine Goes.step (S' := T6.setTop (mkF m 3 #[.val (.ref a1)] [(.int cs)])) (fun t k => st6 t k) ?_
  refine Goes.step (S' := T6.setTop (mkF m 6 #[.val (.ref a1)] [])) (fun t k => XS.ifNo X6.here hx rfl (hb hby dil_3) rfl ((if0 _ _).trans (feq hcs).1) k) ?_
  refine Goes.step (S' := T6.setTop (mkF m 7 #[.val (.ref a1)] [(.ref a1)])) (fun t k => XS.aloadN X6.here hx rfl (hb hby dil_6) rfl rfl k) ?_
  obtain ⟨T7, X7, e7, st7⟩ := getF X6 hx hZ hown (host := "") (Or.inl (hw _ (List.mem_of_getElem? (i := 21) rfl))) Via.refl e6 Fc (g := (mkF m 7 #[.val (.ref a1)] [(.ref a1)])) rfl rfl (hb hby dil_7)
  refine Goes.step (S' := T7.setTop (mkF m 10 #[.val (.ref a1)] [(.int (0 : Int32))])) (fun t k => st7 t k) ?_
  refine Goes.step (S' := T7.setTop (mkF m 13 #[.val (.ref a1)] [])) (fun t k => XS.ifNo X7.here hx rfl (hb hby dil_10) rfl ((if0 _ _).trans (teq rfl).2) k) ?_
  refine Goes.step (S' := T7.setTop (mkF m 14 #[.val (.ref a1)] [(.int (1 : Int32))])) (fun t k => XS.iconst X7.here hx rfl (hb hby dil_13) k) ?_
  refine Goes.step (S' := T7.setTop (mkF m 18 #[.val (.ref a1)] [(.int (1 : Int32))])) (fun t k => XS.goto X7.here hx rfl (pc0 := 14) (pc' := 18) rfl (hb hby dil_14) (by decide) (by decide) k) ?_
  obtain ⟨fs, hr, hrun, hended, hW, hsame⟩ := X7.leave (v := some (.int (1 : Int32))) (fun h => by rw [Bd.returns] at h; cases h)
  exact ⟨_, _, retN X7 hx (t := .boolean) Bd.returns (by simp) (hb hby dil_18) hr, hrun, hended, _, _, rfl, ⟨rfl, N0, e7⟩, ⟨_, rfl⟩, hW, hsame.mono (by decide) (by decide)⟩
theorem dca_0 : decode jdk_42_method_56_code 0 = .ok (.aload_n 0, 1) := by decide +kernel
theorem dca_1 : decode jdk_42_method_56_code 1 = .ok (.invokevirtual 492, 3) := by decide +kernel
theorem dca_4 : decode jdk_42_method_56_code 4 = .ok (.ifCond .eq 12, 3) := by decide +kernel
theorem dca_7 : decode jdk_42_method_56_code 7 = .ok (.aload_n 0, 1) := by decide +kernel
theorem dca_8 : decode jdk_42_method_56_code 8 = .ok (.getfield 9, 3) := by decide +kernel
theorem dca_11 : decode jdk_42_method_56_code 11 = .ok (.iload_n 1, 1) := by decide +kernel
theorem dca_12 : decode jdk_42_method_56_code 12 = .ok (.invokestatic 495, 3) := by decide +kernel
theorem dca_15 : decode jdk_42_method_56_code 15 = .ok (.ireturn, 1) := by decide +kernel
theorem pn_ca : plainName "java/lang/String" = true := by first | (simp [plainName, overriddenIn]; done) | decide +kernel
theorem pd_ca : parseMethodDescriptor "(I)C" = some ⟨[.int], some .char⟩ := by decide +kernel
theorem ef_ca (m : MethodId) (y0 : Addr) (y1 : Int32) : entryFrame m #[(.ref y0), (.int y1)] 2 = mkF m 0 #[.val (.ref y0), .val (.int y1)] [] := by first | (simp [entryFrame, mkF, argsToLocals, Value.category]; done) | rfl
def Qca (Z : State) (a1 : Addr) (p2 : Int32) (a3 : Addr) (N : Int32) (b' : Int32) (cl : Cell) (vF : Value) (cs : Int32) (h0 : Heap) (n0 : Nat) (v : Option Value) (h : Heap) (L : List Loc) : Prop := v = some (.int (b' &&& (255 : Int32))) ∧ Fr n0 L ∧ h = h0
def Rca (Z : State) (a1 : Addr) (p2 : Int32) (a3 : Addr) (N : Int32) (b' : Int32) (cl : Cell) (vF : Value) (cs : Int32) (h0 : Heap) (n0 : Nat) (U : State) (U' : State) (o : Outcome) : Prop := ∃ v L, o = .returned v ∧ Qca Z a1 p2 a3 N b' cl vF cs h0 n0 v U'.heap L ∧ FrameEnd U o U' L ({ frames := 3, cells := 0, slots := 0, locals := 40 } : Room).cells ({ frames := 3, cells := 0, slots := 0, locals := 40 } : Room).slots
set_option maxRecDepth 65536 in
set_option maxHeartbeats 40000000 in
theorem rmca (l : Launch) (Z : State) (a0 : Array Value) (hw : ∀ d ∈ tables_1, d.before a0 Z = true) (ws : List Jvm.Cond) (a1 : Addr) (p2 : Int32) (a3 : Addr) (N : Int32) (b' : Int32) (cl : Cell) (vF : Value) (cs : Int32) (h0 : Heap) (n0 : Nat) (Z0 : n0 ≤ h0.size) (SF : Sta Z h0 "jdk/internal/util/Preconditions" "SIOOBE_FORMATTER" "Ljava/util/function/BiFunction;" vF) (hF : vF.isRef = true) (SC : Sta Z h0 "java/lang/String" "COMPACT_STRINGS" "Z" (.int cs)) (hcs : ¬ cs = (0 : Int32)) (Ev : Exa Z h0 a1 "java/lang/String") (Fc : (Fld Z h0 a1 "java/lang/String" "coder" "B" (.int (0 : Int32)))) (Fv : (Fld Z h0 a1 "java/lang/String" "value" "[B" (.ref a3))) (Ar : Arr Z h0 a3 cl .byte) (Sz : cl.slots.size = N.toNatClampNeg) (hN : ¬ N < (0 : Int32)) (c1 : ¬ p2 < (0 : Int32)) (c2 : p2 < N) (hb' : cl.slots[p2.toNatClampNeg]? = some (.int b')) :
    MetFree l (⟨"java/lang/String", "charAt", "(I)C"⟩ : MethodName) (head1 (Jvm.Cond.code (⟨"java/lang/String", "charAt", "(I)C"⟩ : MethodName) jdk_42_method_56_code 2 (some .char) :: ws) ({ frames := 3, cells := 0, slots := 0, locals := 40 } : Room)) (fun a U => a = #[(.ref a1), (.int p2)] ∧ Z.Warmed39 U.vm ∧ U.heap = h0) (fun _ _ _ _ _ => True) (fun _ U o U' => ∃ v L, o = .returned v ∧ Qca Z a1 p2 a3 N b' cl vF cs h0 n0 v U'.heap L ∧ FrameEnd U o U' L ({ frames := 3, cells := 0, slots := 0, locals := 40 } : Room).cells ({ frames := 3, cells := 0, slots := 0, locals := 40 } : Room).slots) := by
  refine MetFree.of_bodySF (plainFor_of_name pn_ca) hisR ?_
  intro p e s m args below meth c s₁ Bd hml0 hP hK
  obtain ⟨rfl, hZ, hh⟩ := hP
  have hx := Bd.exec
  have hby := Bd.bytes
  have hml : c.maxLocals = 2 := hml0
  have hown : s.vm.findClass "java/lang/String" = some m.cls := findClass_of_methodNamed Bd.named
  have hnm := (name_of_methodNamed Bd.named Bd.method).1
  have X0 : Stand p l e ({ frames := 3, cells := 0, slots := 0, locals := 40 } : Room) s m #[(.ref a1), (.int p2)] below meth c s₁ [] 0 0 := Stand.of_body Bd
  have e0 : s₁.heap = h0 := by rw [← hh, Bd.state]; rfl
  have N0 := Fr.nil n0
  show Goes p e below (Rca Z a1 p2 a3 N b' cl vF cs h0 n0 s) (s₁.setTop (entryFrame m #[(.ref a1), (.int p2)] 2))
  refine Goes.step (S' := s₁.setTop (mkF m 0 #[.val (.ref a1), .val (.int p2)] [])) (fun t k => castTop (ef_ca m a1 p2) k) ?_
  refine Goes.step (S' := s₁.setTop (mkF m 1 #[.val (.ref a1), .val (.int p2)] [(.ref a1)])) (fun t k => XS.aloadN X0.here hx rfl (hb hby dca_0) rfl rfl k) ?_
  obtain ⟨cq8, kq8, q8a, q8b, q8c⟩ := isOf hZ e0 Ev
  obtain ⟨_, _, ⟨T8, L8, k8, n8⟩, -, X8, ⟨Lc8, hQ8, l8, y8, z8⟩, st8⟩ := X0.virtualBack hx (y := (⟨"java/lang/String", "isLatin1", "()Z"⟩ : MethodName)) (z := (⟨"java/lang/String", "isLatin1", "()Z"⟩ : MethodName)) hown (mvT hZ (hw _ (List.mem_of_getElem? (i := 15) rfl))) (mvT hZ (hw _ (List.mem_of_getElem? (i := 16) rfl))) (notFace_of_selects (args := #[]) (mvT hZ (hw _ (List.mem_of_getElem? (i := 18) rfl)))) (mvT hZ (hw _ (List.mem_of_getElem? (i := 18) rfl))) (mvT hZ (hw _ (List.mem_of_getElem? (i := 17) rfl))) (by decide) (backOf (W := 0) (rmil l Z a0 hw [] a1 cs h0 n0 Z0 SC hcs Fc) hZ (hw _ (List.mem_of_getElem? (i := 19) rfl)) (hw _ (List.mem_of_getElem? (i := 1) rfl)) (by decide) (by decide)) q8a q8c (g := (mkF m 1 #[.val (.ref a1), .val (.int p2)] [(.ref a1)])) rfl (by rw [hml]; rfl) (Steps.refl _) (argsL := []) (rest := []) (lenOf pd_il rfl) rfl (by show 2 * 0 + _ ≤ _; exact Nat.le_of_eq rfl) (hb hby dca_1) (fun _ _ => ⟨rfl, e0, (by decide : 0 + 0 ≤ _), (by decide : 0 + 0 ≤ _)⟩)
  dsimp only [Pt.U, Pt.locs, Pt.cells, Pt.slots] at X8 l8 y8 z8 st8 hQ8
  subst l8 y8 z8
  obtain ⟨rfl, N8q, e8⟩ := hQ8
  have N8 := Fr.app N0 N8q
  refine Goes.step (S' := T8.setTop (mkF m 4 #[.val (.ref a1), .val (.int p2)] [(.int (1 : Int32))])) (fun t k => st8.trans k) ?_
  refine Goes.step (S' := T8.setTop (mkF m 7 #[.val (.ref a1), .val (.int p2)] [])) (fun t k => XS.ifNo X8.here hx rfl (hb hby dca_4) rfl ((if0 _ _).trans (feq (by decide : ¬ (1 : Int32) = (0 : Int32))).1) k) ?_
  refine Goes.step (S' := T8.setTop (mkF m 8 #[.val (.ref a1), .val (.int p2)] [(.ref a1)])) (fun t k => XS.aloadN X8.here hx rfl (hb hby dca_7) rfl rfl k) ?_
  obtain ⟨T9, X9, e9, st9⟩ := getF X8 hx hZ hown (host := "") (Or.inl (hw _ (List.mem_of_getElem? (i := 22) rfl))) Via.refl e8 Fv (g := (mkF m 8 #[.val (.ref a1), .val (.int p2)] [(.ref a1)])) rfl rfl (hb hby dca_8)
  refine Goes.step (S' := T9.setTop (mkF m 11 #[.val (.ref a1), .val (.int p2)] [(.ref a3)])) (fun t k => st9 t k) ?_
  refine Goes.step (S' := T9.setTop (mkF m 12 #[.val (.ref a1), .val (.int p2)] [(.int p2), (.ref a3)])) (fun t k => XS.iloadN X9.here hx rfl (hb hby dca_11) rfl k) ?_
  obtain ⟨_, _, ⟨T10, L10, k10, n10⟩, -, X10, ⟨Lc10, hQ10, l10, y10, z10⟩, st10⟩ := Jvm.LawKit.callS X9 hx (y := (⟨"java/lang/StringLatin1", "charAt", "([BI)C"⟩ : MethodName)) hown (mvT hZ (hw _ (List.mem_of_getElem? (i := 23) rfl))) (mvT hZ (hw _ (List.mem_of_getElem? (i := 24) rfl))) (mvT hZ (hw _ (List.mem_of_getElem? (i := 25) rfl))) (mvT hZ (hw _ (List.mem_of_getElem? (i := 26) rfl))) (by decide) (backOf (W := 0) (rmla l Z a0 hw [] a3 p2 N b' cl vF h0 n0 Z0 SF hF Ar Sz hN c1 c2 hb') hZ (hw _ (List.mem_of_getElem? (i := 26) rfl)) (hw _ (List.mem_of_getElem? (i := 25) rfl)) (by decide) (by decide)) (g := (mkF m 12 #[.val (.ref a1), .val (.int p2)] [(.int p2), (.ref a3)])) rfl (by rw [hml]; rfl) (argsL := [(.ref a3), (.int p2)]) (rest := []) (lenOf pd_la rfl) rfl (by show 2 * 0 + _ ≤ _; exact Nat.le_of_eq rfl) (hb hby dca_12) (fun _ _ => ⟨rfl, e9, (by decide : 0 + 0 ≤ _), (by decide : 0 + 0 ≤ _)⟩)
  dsimp only [Pt.U, Pt.locs, Pt.cells, Pt.slots] at X10 l10 y10 z10 st10 hQ10
  subst l10 y10 z10
  obtain ⟨rfl, N10q, e10⟩ := hQ10
  have N10 := Fr.app N8 N10q
  refine Goes.step (S' := T10.setTop (mkF m 15 #[.val (.ref a1), .val (.int p2)] [(.int (b' &&& (255 : Int32)))])) (fun t k => st10 t k) ?_
  obtain ⟨fs, hr, hrun, hended, hW, hsame⟩ := X10.leave (v := some (.int (nar .char (b' &&& (255 : Int32))))) (fun h => by rw [Bd.returns] at h; cases h)
  exact ⟨_, _, retN X10 hx (t := .char) Bd.returns (by simp) (hb hby dca_15) hr, hrun, hended, _, _, rfl, ⟨congrArg (fun z => some (Value.int z)) (i2c_mask b'), N10, e10⟩, ⟨_, rfl⟩, hW, hsame.mono (by decide) (by decide)⟩
theorem ddv_0 : decode prog_99_method_7_code 0 = .ok (.iload_n 0, 1) := by decide +kernel
theorem ddv_1 : decode prog_99_method_7_code 1 = .ok (.bipush 48, 2) := by decide +kernel
theorem ddv_3 : decode prog_99_method_7_code 3 = .ok (.if_icmp .lt 16, 3) := by decide +kernel
theorem ddv_6 : decode prog_99_method_7_code 6 = .ok (.iload_n 0, 1) := by decide +kernel
theorem ddv_7 : decode prog_99_method_7_code 7 = .ok (.bipush 57, 2) := by decide +kernel
theorem ddv_9 : decode prog_99_method_7_code 9 = .ok (.if_icmp .gt 10, 3) := by decide +kernel
theorem ddv_12 : decode prog_99_method_7_code 12 = .ok (.iload_n 0, 1) := by decide +kernel
theorem ddv_13 : decode prog_99_method_7_code 13 = .ok (.bipush 48, 2) := by decide +kernel
theorem ddv_15 : decode prog_99_method_7_code 15 = .ok (.isub, 1) := by decide +kernel
theorem ddv_16 : decode prog_99_method_7_code 16 = .ok (.goto 60, 3) := by decide +kernel
theorem ddv_19 : decode prog_99_method_7_code 19 = .ok (.iload_n 1, 1) := by decide +kernel
theorem ddv_20 : decode prog_99_method_7_code 20 = .ok (.bipush 16, 2) := by decide +kernel
theorem ddv_22 : decode prog_99_method_7_code 22 = .ok (.if_icmp .ne 25, 3) := by decide +kernel
theorem ddv_25 : decode prog_99_method_7_code 25 = .ok (.iload_n 0, 1) := by decide +kernel
theorem ddv_26 : decode prog_99_method_7_code 26 = .ok (.bipush 97, 2) := by decide +kernel
theorem ddv_28 : decode prog_99_method_7_code 28 = .ok (.if_icmp .lt 19, 3) := by decide +kernel
theorem ddv_31 : decode prog_99_method_7_code 31 = .ok (.iload_n 0, 1) := by decide +kernel
theorem ddv_32 : decode prog_99_method_7_code 32 = .ok (.bipush 102, 2) := by decide +kernel
theorem ddv_34 : decode prog_99_method_7_code 34 = .ok (.if_icmp .gt 13, 3) := by decide +kernel
theorem ddv_37 : decode prog_99_method_7_code 37 = .ok (.iload_n 0, 1) := by decide +kernel
theorem ddv_38 : decode prog_99_method_7_code 38 = .ok (.bipush 97, 2) := by decide +kernel
theorem ddv_40 : decode prog_99_method_7_code 40 = .ok (.isub, 1) := by decide +kernel
theorem ddv_41 : decode prog_99_method_7_code 41 = .ok (.bipush 10, 2) := by decide +kernel
theorem ddv_43 : decode prog_99_method_7_code 43 = .ok (.iadd, 1) := by decide +kernel
theorem ddv_44 : decode prog_99_method_7_code 44 = .ok (.goto 32, 3) := by decide +kernel
theorem ddv_47 : decode prog_99_method_7_code 47 = .ok (.iload_n 1, 1) := by decide +kernel
theorem ddv_48 : decode prog_99_method_7_code 48 = .ok (.bipush 16, 2) := by decide +kernel
theorem ddv_50 : decode prog_99_method_7_code 50 = .ok (.if_icmp .ne 25, 3) := by decide +kernel
theorem ddv_53 : decode prog_99_method_7_code 53 = .ok (.iload_n 0, 1) := by decide +kernel
theorem ddv_54 : decode prog_99_method_7_code 54 = .ok (.bipush 65, 2) := by decide +kernel
theorem ddv_56 : decode prog_99_method_7_code 56 = .ok (.if_icmp .lt 19, 3) := by decide +kernel
theorem ddv_59 : decode prog_99_method_7_code 59 = .ok (.iload_n 0, 1) := by decide +kernel
theorem ddv_60 : decode prog_99_method_7_code 60 = .ok (.bipush 70, 2) := by decide +kernel
theorem ddv_62 : decode prog_99_method_7_code 62 = .ok (.if_icmp .gt 13, 3) := by decide +kernel
theorem ddv_65 : decode prog_99_method_7_code 65 = .ok (.iload_n 0, 1) := by decide +kernel
theorem ddv_66 : decode prog_99_method_7_code 66 = .ok (.bipush 65, 2) := by decide +kernel
theorem ddv_68 : decode prog_99_method_7_code 68 = .ok (.isub, 1) := by decide +kernel
theorem ddv_69 : decode prog_99_method_7_code 69 = .ok (.bipush 10, 2) := by decide +kernel
theorem ddv_71 : decode prog_99_method_7_code 71 = .ok (.iadd, 1) := by decide +kernel
theorem ddv_72 : decode prog_99_method_7_code 72 = .ok (.goto 4, 3) := by decide +kernel
theorem ddv_75 : decode prog_99_method_7_code 75 = .ok (.iconst (-1), 1) := by decide +kernel
theorem ddv_76 : decode prog_99_method_7_code 76 = .ok (.ireturn, 1) := by decide +kernel
theorem pn_dv : plainName "com/example/plumb_xml/plumbxml/XmlChars" = true := by first | (simp [plainName, overriddenIn]; done) | decide +kernel
theorem pd_dv : parseMethodDescriptor "(II)I" = some ⟨[.int, .int], some .int⟩ := by decide +kernel
theorem ef_dv (m : MethodId) (y0 : Int32) (y1 : Int32) : entryFrame m #[(.int y0), (.int y1)] 2 = mkF m 0 #[.val (.int y0), .val (.int y1)] [] := by first | (simp [entryFrame, mkF, argsToLocals, Value.category]; done) | rfl
def Qdv (Z : State) (p1 : Int32) (p2 : Int32) (h0 : Heap) (n0 : Nat) (v : Option Value) (h : Heap) (L : List Loc) : Prop := v = some (.int (own_d1 p1 p2)) ∧ Fr n0 L ∧ h = h0
def Rdv (Z : State) (p1 : Int32) (p2 : Int32) (h0 : Heap) (n0 : Nat) (U : State) (U' : State) (o : Outcome) : Prop := ∃ v L, o = .returned v ∧ Qdv Z p1 p2 h0 n0 v U'.heap L ∧ FrameEnd U o U' L ({ frames := 0, cells := 0, slots := 0, locals := 0 } : Room).cells ({ frames := 0, cells := 0, slots := 0, locals := 0 } : Room).slots
set_option maxRecDepth 65536 in
set_option maxHeartbeats 40000000 in
theorem rmdv (l : Launch) (Z : State) (a0 : Array Value) (hw : ∀ d ∈ tables_1, d.before a0 Z = true) (ws : List Jvm.Cond) (p1 : Int32) (p2 : Int32) (h0 : Heap) (n0 : Nat) (Z0 : n0 ≤ h0.size)  :
    MetFree l (⟨"com/example/plumb_xml/plumbxml/XmlChars", "digitValue", "(II)I"⟩ : MethodName) (head1 (Jvm.Cond.code (⟨"com/example/plumb_xml/plumbxml/XmlChars", "digitValue", "(II)I"⟩ : MethodName) prog_99_method_7_code 2 (some .int) :: ws) ({ frames := 0, cells := 0, slots := 0, locals := 0 } : Room)) (fun a U => a = #[(.int p1), (.int p2)] ∧ Z.Warmed39 U.vm ∧ U.heap = h0) (fun _ _ _ _ _ => True) (fun _ U o U' => ∃ v L, o = .returned v ∧ Qdv Z p1 p2 h0 n0 v U'.heap L ∧ FrameEnd U o U' L ({ frames := 0, cells := 0, slots := 0, locals := 0 } : Room).cells ({ frames := 0, cells := 0, slots := 0, locals := 0 } : Room).slots) := by
  refine MetFree.of_bodySF (plainFor_of_name pn_dv) hisR ?_
  intro p e s m args below meth c s₁ Bd hml0 hP hK
  obtain ⟨rfl, hZ, hh⟩ := hP
  have hx := Bd.exec
  have hby := Bd.bytes
  have hml : c.maxLocals = 2 := hml0
  have hown : s.vm.findClass "com/example/plumb_xml/plumbxml/XmlChars" = some m.cls := findClass_of_methodNamed Bd.named
  have hnm := (name_of_methodNamed Bd.named Bd.method).1
  have X0 : Stand p l e ({ frames := 0, cells := 0, slots := 0, locals := 0 } : Room) s m #[(.int p1), (.int p2)] below meth c s₁ [] 0 0 := Stand.of_body Bd
  have e0 : s₁.heap = h0 := by rw [← hh, Bd.state]; rfl
  have N0 := Fr.nil n0
  show Goes p e below (Rdv Z p1 p2 h0 n0 s) (s₁.setTop (entryFrame m #[(.int p1), (.int p2)] 2))
  refine Goes.step (S' := s₁.setTop (mkF m 0 #[.val (.int p1), .val (.int p2)] [])) (fun t k => castTop (ef_dv m p1 p2) k) ?_
  have K75 : ∀ (hq : own_d1 p1 p2 = -1), Goes p e below (Rdv Z p1 p2 h0 n0 s) (s₁.setTop (mkF m 75 #[.val (.int p1), .val (.int p2)] [])) := by
    intro hq
    refine Goes.step (S' := s₁.setTop (mkF m 76 #[.val (.int p1), .val (.int p2)] [(.int (-1 : Int32))])) (fun t k => XS.iconst X0.here hx rfl (hb hby ddv_75) k) ?_
    obtain ⟨fs, hr, hrun, hended, hW, hsame⟩ := X0.leave (v := some (.int (-1 : Int32))) (fun h => by rw [Bd.returns] at h; cases h)
    exact ⟨_, _, retI X0 hx Bd.returns (hb hby ddv_76) hr, hrun, hended, _, _, rfl, ⟨by rw [hq], N0, e0⟩, ⟨_, rfl⟩, hW, hsame.mono (by decide) (by decide)⟩
  have K47 : ∀ (hq : own_d1 p1 p2 = own_d3 p1 p2), Goes p e below (Rdv Z p1 p2 h0 n0 s) (s₁.setTop (mkF m 47 #[.val (.int p1), .val (.int p2)] [])) := by
    intro hq
    refine Goes.step (S' := s₁.setTop (mkF m 48 #[.val (.int p1), .val (.int p2)] [(.int p2)])) (fun t k => XS.iloadN X0.here hx rfl (hb hby ddv_47) rfl k) ?_
    refine Goes.step (S' := s₁.setTop (mkF m 50 #[.val (.int p1), .val (.int p2)] [(.int (16 : Int32)), (.int p2)])) (fun t k => XS.bipush X0.here hx rfl (hb hby ddv_48) k) ?_
    by_cases k1 : p2 = (16 : Int32)
    · refine Goes.step (S' := s₁.setTop (mkF m 53 #[.val (.int p1), .val (.int p2)] [])) (fun t k => XS.icmpNo X0.here hx rfl (hb hby ddv_50) rfl (teq k1).2 k) ?_
      refine Goes.step (S' := s₁.setTop (mkF m 54 #[.val (.int p1), .val (.int p2)] [(.int p1)])) (fun t k => XS.iloadN X0.here hx rfl (hb hby ddv_53) rfl k) ?_
      refine Goes.step (S' := s₁.setTop (mkF m 56 #[.val (.int p1), .val (.int p2)] [(.int (65 : Int32)), (.int p1)])) (fun t k => XS.bipush X0.here hx rfl (hb hby ddv_54) k) ?_
      by_cases c1 : p1 < (65 : Int32)
      · refine Goes.step (S' := s₁.setTop (mkF m 75 #[.val (.int p1), .val (.int p2)] [])) (fun t k => XS.icmpYes X0.here hx rfl (pc0 := 56) (pc' := 75) rfl (hb hby ddv_56) rfl (tlt c1).1 (by decide) (by decide) k) ?_
        exact K75 (hq.trans (own_d3_l k1 c1))
      · refine Goes.step (S' := s₁.setTop (mkF m 59 #[.val (.int p1), .val (.int p2)] [])) (fun t k => XS.icmpNo X0.here hx rfl (hb hby ddv_56) rfl (flt c1).1 k) ?_
        refine Goes.step (S' := s₁.setTop (mkF m 60 #[.val (.int p1), .val (.int p2)] [(.int p1)])) (fun t k => XS.iloadN X0.here hx rfl (hb hby ddv_59) rfl k) ?_
        refine Goes.step (S' := s₁.setTop (mkF m 62 #[.val (.int p1), .val (.int p2)] [(.int (70 : Int32)), (.int p1)])) (fun t k => XS.bipush X0.here hx rfl (hb hby ddv_60) k) ?_
        by_cases c2 : (70 : Int32) < p1
        · refine Goes.step (S' := s₁.setTop (mkF m 75 #[.val (.int p1), .val (.int p2)] [])) (fun t k => XS.icmpYes X0.here hx rfl (pc0 := 62) (pc' := 75) rfl (hb hby ddv_62) rfl (tlt c2).2.2.1 (by decide) (by decide) k) ?_
          exact K75 (hq.trans (own_d3_g k1 c1 c2))
        · refine Goes.step (S' := s₁.setTop (mkF m 65 #[.val (.int p1), .val (.int p2)] [])) (fun t k => XS.icmpNo X0.here hx rfl (hb hby ddv_62) rfl (flt c2).2.2.1 k) ?_
          refine Goes.step (S' := s₁.setTop (mkF m 66 #[.val (.int p1), .val (.int p2)] [(.int p1)])) (fun t k => XS.iloadN X0.here hx rfl (hb hby ddv_65) rfl k) ?_
          refine Goes.step (S' := s₁.setTop (mkF m 68 #[.val (.int p1), .val (.int p2)] [(.int (65 : Int32)), (.int p1)])) (fun t k => XS.bipush X0.here hx rfl (hb hby ddv_66) k) ?_
          refine Goes.step (S' := s₁.setTop (mkF m 69 #[.val (.int p1), .val (.int p2)] [(.int (p1 - (65 : Int32)))])) (fun t k => XS.isub X0.here hx rfl (hb hby ddv_68) rfl k) ?_
          refine Goes.step (S' := s₁.setTop (mkF m 71 #[.val (.int p1), .val (.int p2)] [(.int (10 : Int32)), (.int (p1 - (65 : Int32)))])) (fun t k => XS.bipush X0.here hx rfl (hb hby ddv_69) k) ?_
          refine Goes.step (S' := s₁.setTop (mkF m 72 #[.val (.int p1), .val (.int p2)] [(.int ((p1 - (65 : Int32)) + (10 : Int32)))])) (fun t k => XS.iadd X0.here hx rfl (hb hby ddv_71) rfl k) ?_
          refine Goes.step (S' := s₁.setTop (mkF m 76 #[.val (.int p1), .val (.int p2)] [(.int ((p1 - (65 : Int32)) + (10 : Int32)))])) (fun t k => XS.goto X0.here hx rfl (pc0 := 72) (pc' := 76) rfl (hb hby ddv_72) (by decide) (by decide) k) ?_
          obtain ⟨fs, hr, hrun, hended, hW, hsame⟩ := X0.leave (v := some (.int ((p1 - (65 : Int32)) + (10 : Int32)))) (fun h => by rw [Bd.returns] at h; cases h)
          exact ⟨_, _, retI X0 hx Bd.returns (hb hby ddv_76) hr, hrun, hended, _, _, rfl, ⟨by rw [hq, own_d3_y k1 c1 c2], N0, e0⟩, ⟨_, rfl⟩, hW, hsame.mono (by decide) (by decide)⟩
    · refine Goes.step (S' := s₁.setTop (mkF m 75 #[.val (.int p1), .val (.int p2)] [])) (fun t k => XS.icmpYes X0.here hx rfl (pc0 := 50) (pc' := 75) rfl (hb hby ddv_50) rfl (feq k1).2 (by decide) (by decide) k) ?_
      exact K75 (hq.trans (own_d3_n k1))
  have K19 : ∀ (hq : own_d1 p1 p2 = own_d2 p1 p2), Goes p e below (Rdv Z p1 p2 h0 n0 s) (s₁.setTop (mkF m 19 #[.val (.int p1), .val (.int p2)] [])) := by
    intro hq
    refine Goes.step (S' := s₁.setTop (mkF m 20 #[.val (.int p1), .val (.int p2)] [(.int p2)])) (fun t k => XS.iloadN X0.here hx rfl (hb hby ddv_19) rfl k) ?_
    refine Goes.step (S' := s₁.setTop (mkF m 22 #[.val (.int p1), .val (.int p2)] [(.int (16 : Int32)), (.int p2)])) (fun t k => XS.bipush X0.here hx rfl (hb hby ddv_20) k) ?_
    by_cases k1 : p2 = (16 : Int32)
    · refine Goes.step (S' := s₁.setTop (mkF m 25 #[.val (.int p1), .val (.int p2)] [])) (fun t k => XS.icmpNo X0.here hx rfl (hb hby ddv_22) rfl (teq k1).2 k) ?_
      refine Goes.step (S' := s₁.setTop (mkF m 26 #[.val (.int p1), .val (.int p2)] [(.int p1)])) (fun t k => XS.iloadN X0.here hx rfl (hb hby ddv_25) rfl k) ?_
      refine Goes.step (S' := s₁.setTop (mkF m 28 #[.val (.int p1), .val (.int p2)] [(.int (97 : Int32)), (.int p1)])) (fun t k => XS.bipush X0.here hx rfl (hb hby ddv_26) k) ?_
      by_cases c1 : p1 < (97 : Int32)
      · refine Goes.step (S' := s₁.setTop (mkF m 47 #[.val (.int p1), .val (.int p2)] [])) (fun t k => XS.icmpYes X0.here hx rfl (pc0 := 28) (pc' := 47) rfl (hb hby ddv_28) rfl (tlt c1).1 (by decide) (by decide) k) ?_
        exact K47 (hq.trans (own_d2_l k1 c1))
      · refine Goes.step (S' := s₁.setTop (mkF m 31 #[.val (.int p1), .val (.int p2)] [])) (fun t k => XS.icmpNo X0.here hx rfl (hb hby ddv_28) rfl (flt c1).1 k) ?_
        refine Goes.step (S' := s₁.setTop (mkF m 32 #[.val (.int p1), .val (.int p2)] [(.int p1)])) (fun t k => XS.iloadN X0.here hx rfl (hb hby ddv_31) rfl k) ?_
        refine Goes.step (S' := s₁.setTop (mkF m 34 #[.val (.int p1), .val (.int p2)] [(.int (102 : Int32)), (.int p1)])) (fun t k => XS.bipush X0.here hx rfl (hb hby ddv_32) k) ?_
        by_cases c2 : (102 : Int32) < p1
        · refine Goes.step (S' := s₁.setTop (mkF m 47 #[.val (.int p1), .val (.int p2)] [])) (fun t k => XS.icmpYes X0.here hx rfl (pc0 := 34) (pc' := 47) rfl (hb hby ddv_34) rfl (tlt c2).2.2.1 (by decide) (by decide) k) ?_
          exact K47 (hq.trans (own_d2_g k1 c1 c2))
        · refine Goes.step (S' := s₁.setTop (mkF m 37 #[.val (.int p1), .val (.int p2)] [])) (fun t k => XS.icmpNo X0.here hx rfl (hb hby ddv_34) rfl (flt c2).2.2.1 k) ?_
          refine Goes.step (S' := s₁.setTop (mkF m 38 #[.val (.int p1), .val (.int p2)] [(.int p1)])) (fun t k => XS.iloadN X0.here hx rfl (hb hby ddv_37) rfl k) ?_
          refine Goes.step (S' := s₁.setTop (mkF m 40 #[.val (.int p1), .val (.int p2)] [(.int (97 : Int32)), (.int p1)])) (fun t k => XS.bipush X0.here hx rfl (hb hby ddv_38) k) ?_
          refine Goes.step (S' := s₁.setTop (mkF m 41 #[.val (.int p1), .val (.int p2)] [(.int (p1 - (97 : Int32)))])) (fun t k => XS.isub X0.here hx rfl (hb hby ddv_40) rfl k) ?_
          refine Goes.step (S' := s₁.setTop (mkF m 43 #[.val (.int p1), .val (.int p2)] [(.int (10 : Int32)), (.int (p1 - (97 : Int32)))])) (fun t k => XS.bipush X0.here hx rfl (hb hby ddv_41) k) ?_
          refine Goes.step (S' := s₁.setTop (mkF m 44 #[.val (.int p1), .val (.int p2)] [(.int ((p1 - (97 : Int32)) + (10 : Int32)))])) (fun t k => XS.iadd X0.here hx rfl (hb hby ddv_43) rfl k) ?_
          refine Goes.step (S' := s₁.setTop (mkF m 76 #[.val (.int p1), .val (.int p2)] [(.int ((p1 - (97 : Int32)) + (10 : Int32)))])) (fun t k => XS.goto X0.here hx rfl (pc0 := 44) (pc' := 76) rfl (hb hby ddv_44) (by decide) (by decide) k) ?_
          obtain ⟨fs, hr, hrun, hended, hW, hsame⟩ := X0.leave (v := some (.int ((p1 - (97 : Int32)) + (10 : Int32)))) (fun h => by rw [Bd.returns] at h; cases h)
          exact ⟨_, _, retI X0 hx Bd.returns (hb hby ddv_76) hr, hrun, hended, _, _, rfl, ⟨by rw [hq, own_d2_y k1 c1 c2], N0, e0⟩, ⟨_, rfl⟩, hW, hsame.mono (by decide) (by decide)⟩
    · refine Goes.step (S' := s₁.setTop (mkF m 47 #[.val (.int p1), .val (.int p2)] [])) (fun t k => XS.icmpYes X0.here hx rfl (pc0 := 22) (pc' := 47) rfl (hb hby ddv_22) rfl (feq k1).2 (by decide) (by decide) k) ?_
      exact K47 (hq.trans (own_d2_n k1))
  refine Goes.step (S' := s₁.setTop (mkF m 1 #[.val (.int p1), .val (.int p2)] [(.int p1)])) (fun t k => XS.iloadN X0.here hx rfl (hb hby ddv_0) rfl k) ?_
  refine Goes.step (S' := s₁.setTop (mkF m 3 #[.val (.int p1), .val (.int p2)] [(.int (48 : Int32)), (.int p1)])) (fun t k => XS.bipush X0.here hx rfl (hb hby ddv_1) k) ?_
  by_cases c1 : p1 < (48 : Int32)
  · refine Goes.step (S' := s₁.setTop (mkF m 19 #[.val (.int p1), .val (.int p2)] [])) (fun t k => XS.icmpYes X0.here hx rfl (pc0 := 3) (pc' := 19) rfl (hb hby ddv_3) rfl (tlt c1).1 (by decide) (by decide) k) ?_
    exact K19 (own_d1_l c1)
  · refine Goes.step (S' := s₁.setTop (mkF m 6 #[.val (.int p1), .val (.int p2)] [])) (fun t k => XS.icmpNo X0.here hx rfl (hb hby ddv_3) rfl (flt c1).1 k) ?_
    refine Goes.step (S' := s₁.setTop (mkF m 7 #[.val (.int p1), .val (.int p2)] [(.int p1)])) (fun t k => XS.iloadN X0.here hx rfl (hb hby ddv_6) rfl k) ?_
    refine Goes.step (S' := s₁.setTop (mkF m 9 #[.val (.int p1), .val (.int p2)] [(.int (57 : Int32)), (.int p1)])) (fun t k => XS.bipush X0.here hx rfl (hb hby ddv_7) k) ?_
    by_cases c2 : (57 : Int32) < p1
    · refine Goes.step (S' := s₁.setTop (mkF m 19 #[.val (.int p1), .val (.int p2)] [])) (fun t k => XS.icmpYes X0.here hx rfl (pc0 := 9) (pc' := 19) rfl (hb hby ddv_9) rfl (tlt c2).2.2.1 (by decide) (by decide) k) ?_
      exact K19 (own_d1_g c1 c2)
    · refine Goes.step (S' := s₁.setTop (mkF m 12 #[.val (.int p1), .val (.int p2)] [])) (fun t k => XS.icmpNo X0.here hx rfl (hb hby ddv_9) rfl (flt c2).2.2.1 k) ?_
      refine Goes.step (S' := s₁.setTop (mkF m 13 #[.val (.int p1), .val (.int p2)] [(.int p1)])) (fun t k => XS.iloadN X0.here hx rfl (hb hby ddv_12) rfl k) ?_
      refine Goes.step (S' := s₁.setTop (mkF m 15 #[.val (.int p1), .val (.int p2)] [(.int (48 : Int32)), (.int p1)])) (fun t k => XS.bipush X0.here hx rfl (hb hby ddv_13) k) ?_
      refine Goes.step (S' := s₁.setTop (mkF m 16 #[.val (.int p1), .val (.int p2)] [(.int (p1 - (48 : Int32)))])) (fun t k => XS.isub X0.here hx rfl (hb hby ddv_15) rfl k) ?_
      refine Goes.step (S' := s₁.setTop (mkF m 76 #[.val (.int p1), .val (.int p2)] [(.int (p1 - (48 : Int32)))])) (fun t k => XS.goto X0.here hx rfl (pc0 := 16) (pc' := 76) rfl (hb hby ddv_16) (by decide) (by decide) k) ?_
      obtain ⟨fs, hr, hrun, hended, hW, hsame⟩ := X0.leave (v := some (.int (p1 - (48 : Int32)))) (fun h => by rw [Bd.returns] at h; cases h)
      exact ⟨_, _, retI X0 hx Bd.returns (hb hby ddv_76) hr, hrun, hended, _, _, rfl, ⟨by rw [own_d1_y c1 c2], N0, e0⟩, ⟨_, rfl⟩, hW, hsame.mono (by decide) (by decide)⟩
theorem pn_0 : plainName "com/example/plumb_xml/plumbxml/XmlCharsDigitValuePinLaw" = true := by first | (simp [plainName, overriddenIn]; done) | decide +kernel
theorem pd_0 : parseMethodDescriptor "(III)Z" = some ⟨[.int, .int, .int], some .boolean⟩ := by decide +kernel
theorem ef_0 (m : MethodId) (y0 : Int32) (y1 : Int32) (y2 : Int32) : entryFrame m #[(.int y0), (.int y1), (.int y2)] maxLocals = mkF m 0 #[.val (.int y0), .val (.int y1), .val (.int y2), .unset, .unset, .unset, .unset, .unset, .unset, .unset] [] := by first | (simp [entryFrame, mkF, argsToLocals, Value.category, maxLocals]; done) | rfl
def Q0 (Z : State) (p1 : Int32) (p2 : Int32) (p3 : Int32) (vF : Value) (cs : Int32) (h0 : Heap) (n0 : Nat) (v : Option Value) (h : Heap) (L : List Loc) : Prop := v = some (.int 1) ∧ Fr n0 L
def R0 (Z : State) (p1 : Int32) (p2 : Int32) (p3 : Int32) (vF : Value) (cs : Int32) (h0 : Heap) (n0 : Nat) (U : State) (U' : State) (o : Outcome) : Prop := ∃ v L, o = .returned v ∧ Q0 Z p1 p2 p3 vF cs h0 n0 v U'.heap L ∧ ReturnedEndW U o U' L room_1.cells room_1.slots
set_option maxRecDepth 65536 in
set_option maxHeartbeats 40000000 in
theorem rm0 (l : Launch) (Z : State) (a0 : Array Value) (hw : ∀ d ∈ tables_1, d.before a0 Z = true) (ws : List Jvm.Cond) (p1 : Int32) (p2 : Int32) (p3 : Int32) (vF : Value) (cs : Int32) (h0 : Heap) (n0 : Nat) (Z0 : n0 ≤ h0.size) (hZh : h0 = Z.heap) (SF : Sta Z Z.heap "jdk/internal/util/Preconditions" "SIOOBE_FORMATTER" "Ljava/util/function/BiFunction;" vF) (hF : vF.isRef = true) (SC : Sta Z Z.heap "java/lang/String" "COMPACT_STRINGS" "Z" (.int cs)) (hcs : ¬ cs = (0 : Int32)) (H7 : ConstHeldL Z "com/example/plumb_xml/plumbxml/XmlCharsDigitValuePinLaw" 7) (H9 : ConstHeldL Z "com/example/plumb_xml/plumbxml/XmlCharsDigitValuePinLaw" 9) :
    MetFree l x (head1 (Jvm.Cond.code x code maxLocals ret :: ws) room_1) (fun a U => a = #[(.int p1), (.int p2), (.int p3)] ∧ U = Z) (fun _ _ _ _ _ => True) (fun _ U o U' => ∃ v L, o = .returned v ∧ Q0 Z p1 p2 p3 vF cs h0 n0 v U'.heap L ∧ ReturnedEndW U o U' L room_1.cells room_1.slots) := by
  refine MetFree.of_bodySF (plainFor_of_name pn_0) hisR ?_
  intro p e s m args below meth c s₁ Bd hml0 hP hK
  obtain ⟨rfl, rfl⟩ := hP
  have hZ : s.Warmed39 s.vm := State.Warmed39.refl s
  have hh : s.heap = h0 := hZh.symm
  have hx := Bd.exec
  have hby := Bd.bytes
  have hml : c.maxLocals = 10 := hml0
  have hown : s.vm.findClass "com/example/plumb_xml/plumbxml/XmlCharsDigitValuePinLaw" = some m.cls := findClass_of_methodNamed Bd.named
  have hnm := (name_of_methodNamed Bd.named Bd.method).1
  have X0 : Stand p l e room_1 s m #[(.int p1), (.int p2), (.int p3)] below meth c s₁ [] 0 0 := Stand.of_body Bd
  have e0 : s₁.heap = h0 := by rw [← hh, Bd.state]; rfl
  have N0 := Fr.nil n0
  show Goes p e below (R0 s p1 p2 p3 vF cs h0 n0 s) (s₁.setTop (entryFrame m #[(.int p1), (.int p2), (.int p3)] maxLocals))
  refine Goes.step (S' := s₁.setTop (mkF m 0 #[.val (.int p1), .val (.int p2), .val (.int p3), .unset, .unset, .unset, .unset, .unset, .unset, .unset] [])) (fun t k => castTop (ef_0 m p1 p2 p3) k) ?_
  have own_sa : ∀ d ∈ Bundle.stringAtoms, d.before #[(.int p1), (.int p2), (.int p3)] s = true := fun d hd => by
    simp only [Bundle.stringAtoms, List.mem_cons, List.not_mem_nil, or_false] at hd
    rcases hd with rfl | rfl | rfl | rfl | rfl | rfl | rfl
    · exact mv (s := s) hZ (hw _ (List.mem_of_getElem? (i := 1) rfl))
    · exact mv (s := s) hZ (hw _ (List.mem_of_getElem? (i := 2) rfl))
    · exact mvA (s := s) hZ (hw _ (List.mem_of_getElem? (i := 3) rfl))
    · exact mv (s := s) hZ (hw _ (List.mem_of_getElem? (i := 4) rfl))
    · exact mv (s := s) hZ (hw _ (List.mem_of_getElem? (i := 5) rfl))
    · exact mv (s := s) hZ (hw _ (List.mem_of_getElem? (i := 6) rfl))
    · exact mv (s := s) hZ (hw _ (List.mem_of_getElem? (i := 7) rfl))
  obtain ⟨a1, T1, X1, hS1, -, hk1, hi1, hw1, ⟨u1, hd1, sl1⟩, st1⟩ := X0.ldcStringColdSl2 hx hown (mvS (s := s) (vm0 := s.vm) hZ (hw _ (List.mem_of_getElem? (i := 0) rfl))) own_sa H7 (fun us hus => Jvm.ClassFile.lat_of_text hus (by decide)) (g := (mkF m 0 #[.val (.int p1), .val (.int p2), .val (.int p3), .unset, .unset, .unset, .unset, .unset, .unset, .unset] [])) rfl (hb hby at_0) (n := 64) (by decide) (by decide) (by decide) (by decide)
  refine Goes.step (S' := T1.setTop (mkF m 2 #[.val (.int p1), .val (.int p2), .val (.int p3), .unset, .unset, .unset, .unset, .unset, .unset, .unset] [(.ref a1)])) (fun t k => st1 t k) ?_
  refine Goes.step (S' := T1.setTop (mkF m 3 #[.val (.int p1), .val (.int p2), .val (.int p3), .val (.ref a1), .unset, .unset, .unset, .unset, .unset, .unset] [])) (fun t k => XS.astoreN X1.here hx rfl (hb hby at_2) rfl rfl (l' := #[.val (.int p1), .val (.int p2), .val (.int p3), .val (.ref a1), .unset, .unset, .unset, .unset, .unset, .unset]) rfl k) ?_
  have hown1 : (s.setVm T1.vm).vm.findClass "com/example/plumb_xml/plumbxml/XmlCharsDigitValuePinLaw" = some m.cls := by show T1.vm.findClass _ = _; rw [hS1.1.alike.findClass]; exact hown
  have own_sa1 : ∀ d ∈ Bundle.stringAtoms, d.before #[(.int p1), (.int p2), (.int p3)] (s.setVm T1.vm) = true := fun d hd => by
    simp only [Bundle.stringAtoms, List.mem_cons, List.not_mem_nil, or_false] at hd
    rcases hd with rfl | rfl | rfl | rfl | rfl | rfl | rfl
    · exact mv (s := (s.setVm T1.vm)) hS1.1 (hw _ (List.mem_of_getElem? (i := 1) rfl))
    · exact mv (s := (s.setVm T1.vm)) hS1.1 (hw _ (List.mem_of_getElem? (i := 2) rfl))
    · exact mvA (s := (s.setVm T1.vm)) hS1.1 (hw _ (List.mem_of_getElem? (i := 3) rfl))
    · exact mv (s := (s.setVm T1.vm)) hS1.1 (hw _ (List.mem_of_getElem? (i := 4) rfl))
    · exact mv (s := (s.setVm T1.vm)) hS1.1 (hw _ (List.mem_of_getElem? (i := 5) rfl))
    · exact mv (s := (s.setVm T1.vm)) hS1.1 (hw _ (List.mem_of_getElem? (i := 6) rfl))
    · exact mv (s := (s.setVm T1.vm)) hS1.1 (hw _ (List.mem_of_getElem? (i := 7) rfl))
  have H9' : ConstHeldL (s.setVm T1.vm) "com/example/plumb_xml/plumbxml/XmlCharsDigitValuePinLaw" 9 := Jvm.Free.SBG.constHeldL_carried (args := a0) (textJ := "0123456789ABCDEF") hS1.1 (hw _ (List.mem_of_getElem? (i := 8) rfl)) (by
    rcases hw1 with e' | ⟨us, a', hus, e'⟩
    · exact Or.inl (e'.trans X0.warmed.interned_eq)
    · exact Or.inr ⟨us, a', by rw [hus]; decide, by rw [e', X0.warmed.interned_eq]⟩) H9
  obtain ⟨a2, T2, X2, hS2, -, hk2, hi2, -, ⟨u2, hd2, sl2⟩, st2⟩ := X1.ldcStringColdSl2 hx hown1 (mvS hS1.1 (hw _ (List.mem_of_getElem? (i := 8) rfl))) own_sa1 H9' (fun us hus => Jvm.ClassFile.lat_of_text hus (by decide)) (g := (mkF m 3 #[.val (.int p1), .val (.int p2), .val (.int p3), .val (.ref a1), .unset, .unset, .unset, .unset, .unset, .unset] [])) rfl (hb hby at_3) (n := 64) (by decide) (by decide) (by decide) (by decide)
  refine Goes.step (S' := T2.setTop (mkF m 5 #[.val (.int p1), .val (.int p2), .val (.int p3), .val (.ref a1), .unset, .unset, .unset, .unset, .unset, .unset] [(.ref a2)])) (fun t k => st2 t k) ?_
  obtain ⟨X, hS⟩ := X2.againW hS1 hS2 hi2.1
  have hZ : s.Warmed39 (s.setVm T2.vm).vm := hS.1
  have hown : (s.setVm T2.vm).vm.findClass "com/example/plumb_xml/plumbxml/XmlCharsDigitValuePinLaw" = some m.cls := by show T2.vm.findClass _ = _; rw [hS.1.alike.findClass]; exact hown
  have Ex : Ext T1.heap T2.heap := ext_of hk2
  have Od : Ext s.heap T2.heap := by have q : Ext s₁.heap T1.heap := ext_of hk1; rw [e0, hZh] at q; exact ⟨Nat.le_trans q.1 Ex.1, fun x c z => Ex.2 x c (q.2 x c z)⟩
  obtain ⟨q1, cS1, r1, r2, r3, r4, r5, -⟩ := sl1
  obtain ⟨q2, cS2, z1, z2, z3, z4, z5, -⟩ := sl2
  have S1 : SlOf T2 a1 u1 := SlOf.moved (s := T1) ⟨q1, cS1, r1, r2, r3, r4, r5⟩ (hS2.1.alike) (fun b c h => Ex.2 b c h)
  have S2 : SlOf T2 a2 u2 := ⟨q2, cS2, z1, z2, z3, z4, z5⟩
  obtain ⟨v1, cl1, Ev1, Fc1, Fv1, Ar1, B1⟩ := own_str (Z := s) hS.1.alike.symm S1
  obtain ⟨v2, cl2, Ev2, Fc2, Fv2, Ar2, B2⟩ := own_str (Z := s) hS.1.alike.symm S2
  obtain ⟨Sz1, by1⟩ := own_bytes (f := own_lo) B1 hd1 (by decide) (by decide +kernel) (by decide +kernel)
  obtain ⟨Sz2, by2⟩ := own_bytes (f := own_up) B2 hd2 (by decide) (by decide +kernel) (by decide +kernel)
  have SF' := SF.ext Od
  have SC' := SC.ext Od
  have Zh : n0 ≤ T2.heap.size := Nat.le_trans Z0 (by rw [hZh]; exact Od.1)
  obtain ⟨hp, eh⟩ : ∃ hp, T2.heap = hp := ⟨_, rfl⟩
  rw [eh] at Ev1 Fc1 Fv1 Ar1 Ev2 Fc2 Fv2 Ar2 SF' SC' Zh
  clear X2
  refine Goes.step (S' := T2.setTop (mkF m 7 #[.val (.int p1), .val (.int p2), .val (.int p3), .val (.ref a1), .val (.ref a2), .unset, .unset, .unset, .unset, .unset] [])) (fun t k => XS.astore X.here hx rfl (hb hby at_5) rfl rfl (l' := #[.val (.int p1), .val (.int p2), .val (.int p3), .val (.ref a1), .val (.ref a2), .unset, .unset, .unset, .unset, .unset]) rfl k) ?_
  refine Goes.step (S' := T2.setTop (mkF m 8 #[.val (.int p1), .val (.int p2), .val (.int p3), .val (.ref a1), .val (.ref a2), .unset, .unset, .unset, .unset, .unset] [(.int p2)])) (fun t k => XS.iloadN X.here hx rfl (hb hby at_7) rfl k) ?_
  refine Goes.step (S' := T2.setTop (mkF m 9 #[.val (.int p1), .val (.int p2), .val (.int p3), .val (.ref a1), .val (.ref a2), .unset, .unset, .unset, .unset, .unset] [(.int (1 : Int32)), (.int p2)])) (fun t k => XS.iconst X.here hx rfl (hb hby at_8) k) ?_
  refine Goes.step (S' := T2.setTop (mkF m 10 #[.val (.int p1), .val (.int p2), .val (.int p3), .val (.ref a1), .val (.ref a2), .unset, .unset, .unset, .unset, .unset] [(.int (p2 &&& (1 : Int32)))])) (fun t k => XS.iand X.here hx rfl (hb hby at_9) rfl k) ?_
  have K20 : ∀ (rx : Int32) (hr : rx = (10 : Int32) ∨ rx = (16 : Int32)), Goes p e below (R0 s p1 p2 p3 vF cs h0 n0 s) (T2.setTop (mkF m 20 #[.val (.int p1), .val (.int p2), .val (.int p3), .val (.ref a1), .val (.ref a2), .unset, .unset, .unset, .unset, .unset] [(.int rx)])) := by
    intro rx hr
    have rnz : rx ≠ (0 : Int32) := by rcases hr with rfl | rfl <;> decide
    refine Goes.step (S' := T2.setTop (mkF m 22 #[.val (.int p1), .val (.int p2), .val (.int p3), .val (.ref a1), .val (.ref a2), .val (.int rx), .unset, .unset, .unset, .unset] [])) (fun t k => XS.istore X.here hx rfl (hb hby at_20) rfl (l' := #[.val (.int p1), .val (.int p2), .val (.int p3), .val (.ref a1), .val (.ref a2), .val (.int rx), .unset, .unset, .unset, .unset]) rfl k) ?_
    refine Goes.step (S' := T2.setTop (mkF m 23 #[.val (.int p1), .val (.int p2), .val (.int p3), .val (.ref a1), .val (.ref a2), .val (.int rx), .unset, .unset, .unset, .unset] [(.int p3)])) (fun t k => XS.iloadN X.here hx rfl (hb hby at_22) rfl k) ?_
    refine Goes.step (S' := T2.setTop (mkF m 25 #[.val (.int p1), .val (.int p2), .val (.int p3), .val (.ref a1), .val (.ref a2), .val (.int rx), .unset, .unset, .unset, .unset] [(.int (2147483647 : Int32)), (.int p3)])) (fun t k => X.ldcInt hx hown (mvT hZ (hw _ (List.mem_of_getElem? (i := 9) rfl))) (g := (mkF m 23 #[.val (.int p1), .val (.int p2), .val (.int p3), .val (.ref a1), .val (.ref a2), .val (.int rx), .unset, .unset, .unset, .unset] [(.int p3)])) rfl (hb hby at_23) _ k) ?_
    refine Goes.step (S' := T2.setTop (mkF m 26 #[.val (.int p1), .val (.int p2), .val (.int p3), .val (.ref a1), .val (.ref a2), .val (.int rx), .unset, .unset, .unset, .unset] [(.int (p3 &&& (2147483647 : Int32)))])) (fun t k => XS.iand X.here hx rfl (hb hby at_25) rfl k) ?_
    refine Goes.step (S' := T2.setTop (mkF m 28 #[.val (.int p1), .val (.int p2), .val (.int p3), .val (.ref a1), .val (.ref a2), .val (.int rx), .unset, .unset, .unset, .unset] [(.int rx), (.int (p3 &&& (2147483647 : Int32)))])) (fun t k => XS.iload X.here hx rfl (hb hby at_26) rfl k) ?_
    refine Goes.step (S' := T2.setTop (mkF m 29 #[.val (.int p1), .val (.int p2), .val (.int p3), .val (.ref a1), .val (.ref a2), .val (.int rx), .unset, .unset, .unset, .unset] [(.int ((p3 &&& (2147483647 : Int32)) % rx))])) (fun t k => iremM X hx rfl (hb hby at_28) rfl rnz k) ?_
    refine Goes.step (S' := T2.setTop (mkF m 31 #[.val (.int p1), .val (.int p2), .val (.int p3), .val (.ref a1), .val (.ref a2), .val (.int rx), .val (.int ((p3 &&& (2147483647 : Int32)) % rx)), .unset, .unset, .unset] [])) (fun t k => XS.istore X.here hx rfl (hb hby at_29) rfl (l' := #[.val (.int p1), .val (.int p2), .val (.int p3), .val (.ref a1), .val (.ref a2), .val (.int rx), .val (.int ((p3 &&& (2147483647 : Int32)) % rx)), .unset, .unset, .unset]) rfl k) ?_
    refine Goes.step (S' := T2.setTop (mkF m 32 #[.val (.int p1), .val (.int p2), .val (.int p3), .val (.ref a1), .val (.ref a2), .val (.int rx), .val (.int ((p3 &&& (2147483647 : Int32)) % rx)), .unset, .unset, .unset] [(.ref a1)])) (fun t k => XS.aloadN X.here hx rfl (hb hby at_31) rfl rfl k) ?_
    refine Goes.step (S' := T2.setTop (mkF m 34 #[.val (.int p1), .val (.int p2), .val (.int p3), .val (.ref a1), .val (.ref a2), .val (.int rx), .val (.int ((p3 &&& (2147483647 : Int32)) % rx)), .unset, .unset, .unset] [(.int ((p3 &&& (2147483647 : Int32)) % rx)), (.ref a1)])) (fun t k => XS.iload X.here hx rfl (hb hby at_32) rfl k) ?_
    obtain ⟨k1, k2⟩ := own_k (d := p3) hr
    have k3 := own_lt16 hr k2
    obtain ⟨d1, d2⟩ := own_readk hr k1 k2
    obtain ⟨cq15, kq15, q15a, q15b, q15c⟩ := isOf hZ eh Ev1
    obtain ⟨_, _, ⟨T15, L15, k15, n15⟩, -, X15, ⟨Lc15, hQ15, l15, y15, z15⟩, st15⟩ := X.virtualBack hx (y := (⟨"java/lang/String", "charAt", "(I)C"⟩ : MethodName)) (z := (⟨"java/lang/String", "charAt", "(I)C"⟩ : MethodName)) hown (mvT hZ (hw _ (List.mem_of_getElem? (i := 10) rfl))) (mvT hZ (hw _ (List.mem_of_getElem? (i := 11) rfl))) (notFace_of_selects (args := #[]) (mvT hZ (hw _ (List.mem_of_getElem? (i := 13) rfl)))) (mvT hZ (hw _ (List.mem_of_getElem? (i := 13) rfl))) (mvT hZ (hw _ (List.mem_of_getElem? (i := 12) rfl))) (by decide) (backOf (W := 0) (rmca l s a0 hw [] a1 ((p3 &&& (2147483647 : Int32)) % rx) v1 (16 : Int32) (own_lo ((p3 &&& (2147483647 : Int32)) % rx).toNatClampNeg) cl1 vF cs hp n0 Zh SF' hF SC' hcs Ev1 Fc1 Fv1 Ar1 Sz1 (by decide) k1 k3 (by1 _ k1 k3)) hZ (hw _ (List.mem_of_getElem? (i := 14) rfl)) (hw _ (List.mem_of_getElem? (i := 1) rfl)) (by decide) (by decide)) q15a q15c (g := (mkF m 34 #[.val (.int p1), .val (.int p2), .val (.int p3), .val (.ref a1), .val (.ref a2), .val (.int rx), .val (.int ((p3 &&& (2147483647 : Int32)) % rx)), .unset, .unset, .unset] [(.int ((p3 &&& (2147483647 : Int32)) % rx)), (.ref a1)])) rfl (by rw [hml]; rfl) (Steps.refl _) (argsL := [(.int ((p3 &&& (2147483647 : Int32)) % rx))]) (rest := []) (lenOf pd_ca rfl) rfl (by show 2 * 0 + _ ≤ _; exact Nat.le_of_eq rfl) (hb hby at_34) (fun _ _ => ⟨rfl, eh, (by decide : 4 + 0 ≤ _), (by decide : 136 + 0 ≤ _)⟩)
    dsimp only [Pt.U, Pt.locs, Pt.cells, Pt.slots] at X15 l15 y15 z15 st15 hQ15
    subst l15 y15 z15
    obtain ⟨rfl, N15q, e15⟩ := hQ15
    have N15 := Fr.app N0 N15q
    refine Goes.step (S' := T15.setTop (mkF m 37 #[.val (.int p1), .val (.int p2), .val (.int p3), .val (.ref a1), .val (.ref a2), .val (.int rx), .val (.int ((p3 &&& (2147483647 : Int32)) % rx)), .unset, .unset, .unset] [(.int (own_lo ((p3 &&& (2147483647 : Int32)) % rx).toNatClampNeg &&& (255 : Int32)))])) (fun t k => st15.trans k) ?_
    refine Goes.step (S' := T15.setTop (mkF m 39 #[.val (.int p1), .val (.int p2), .val (.int p3), .val (.ref a1), .val (.ref a2), .val (.int rx), .val (.int ((p3 &&& (2147483647 : Int32)) % rx)), .unset, .unset, .unset] [(.int rx), (.int (own_lo ((p3 &&& (2147483647 : Int32)) % rx).toNatClampNeg &&& (255 : Int32)))])) (fun t k => XS.iload X15.here hx rfl (hb hby at_37) rfl k) ?_
    obtain ⟨_, _, ⟨T16, L16, k16, n16⟩, -, X16, ⟨Lc16, hQ16, l16, y16, z16⟩, st16⟩ := Jvm.LawKit.callS X15 hx (y := (⟨"com/example/plumb_xml/plumbxml/XmlChars", "digitValue", "(II)I"⟩ : MethodName)) hown (mvT hZ (hw _ (List.mem_of_getElem? (i := 35) rfl))) (mvT hZ (hw _ (List.mem_of_getElem? (i := 36) rfl))) (mvT hZ (hw _ (List.mem_of_getElem? (i := 37) rfl))) (mvT hZ (hw _ (List.mem_of_getElem? (i := 38) rfl))) (by decide) (backOf (W := 0) (rmdv l s a0 hw [] (own_lo ((p3 &&& (2147483647 : Int32)) % rx).toNatClampNeg &&& (255 : Int32)) rx hp n0 Zh) hZ (hw _ (List.mem_of_getElem? (i := 38) rfl)) (hw _ (List.mem_of_getElem? (i := 37) rfl)) (by decide) (by decide)) (g := (mkF m 39 #[.val (.int p1), .val (.int p2), .val (.int p3), .val (.ref a1), .val (.ref a2), .val (.int rx), .val (.int ((p3 &&& (2147483647 : Int32)) % rx)), .unset, .unset, .unset] [(.int rx), (.int (own_lo ((p3 &&& (2147483647 : Int32)) % rx).toNatClampNeg &&& (255 : Int32)))])) rfl (by rw [hml]; rfl) (argsL := [(.int (own_lo ((p3 &&& (2147483647 : Int32)) % rx).toNatClampNeg &&& (255 : Int32))), (.int rx)]) (rest := []) (lenOf pd_dv rfl) rfl (by show 2 * 0 + _ ≤ _; exact Nat.le_of_eq rfl) (hb hby at_39) (fun _ _ => ⟨rfl, e15, (by decide : 4 + 0 ≤ _), (by decide : 136 + 0 ≤ _)⟩)
    dsimp only [Pt.U, Pt.locs, Pt.cells, Pt.slots] at X16 l16 y16 z16 st16 hQ16
    subst l16 y16 z16
    obtain ⟨rfl, N16q, e16⟩ := hQ16
    have N16 := Fr.app N15 N16q
    refine Goes.step (S' := T16.setTop (mkF m 42 #[.val (.int p1), .val (.int p2), .val (.int p3), .val (.ref a1), .val (.ref a2), .val (.int rx), .val (.int ((p3 &&& (2147483647 : Int32)) % rx)), .unset, .unset, .unset] [(.int (own_d1 (own_lo ((p3 &&& (2147483647 : Int32)) % rx).toNatClampNeg &&& (255 : Int32)) rx))])) (fun t k => st16 t k) ?_
    refine Goes.step (S' := T16.setTop (mkF m 44 #[.val (.int p1), .val (.int p2), .val (.int p3), .val (.ref a1), .val (.ref a2), .val (.int rx), .val (.int ((p3 &&& (2147483647 : Int32)) % rx)), .unset, .unset, .unset] [(.int ((p3 &&& (2147483647 : Int32)) % rx)), (.int (own_d1 (own_lo ((p3 &&& (2147483647 : Int32)) % rx).toNatClampNeg &&& (255 : Int32)) rx))])) (fun t k => XS.iload X16.here hx rfl (hb hby at_42) rfl k) ?_
    refine Goes.step (S' := T16.setTop (mkF m 47 #[.val (.int p1), .val (.int p2), .val (.int p3), .val (.ref a1), .val (.ref a2), .val (.int rx), .val (.int ((p3 &&& (2147483647 : Int32)) % rx)), .unset, .unset, .unset] [])) (fun t k => XS.icmpNo X16.here hx rfl (hb hby at_44) rfl (teq d1).2 k) ?_
    refine Goes.step (S' := T16.setTop (mkF m 49 #[.val (.int p1), .val (.int p2), .val (.int p3), .val (.ref a1), .val (.ref a2), .val (.int rx), .val (.int ((p3 &&& (2147483647 : Int32)) % rx)), .unset, .unset, .unset] [(.ref a2)])) (fun t k => XS.aload X16.here hx rfl (hb hby at_47) rfl rfl k) ?_
    refine Goes.step (S' := T16.setTop (mkF m 51 #[.val (.int p1), .val (.int p2), .val (.int p3), .val (.ref a1), .val (.ref a2), .val (.int rx), .val (.int ((p3 &&& (2147483647 : Int32)) % rx)), .unset, .unset, .unset] [(.int ((p3 &&& (2147483647 : Int32)) % rx)), (.ref a2)])) (fun t k => XS.iload X16.here hx rfl (hb hby at_49) rfl k) ?_
    obtain ⟨cq17, kq17, q17a, q17b, q17c⟩ := isOf hZ e16 Ev2
    obtain ⟨_, _, ⟨T17, L17, k17, n17⟩, -, X17, ⟨Lc17, hQ17, l17, y17, z17⟩, st17⟩ := X16.virtualBack hx (y := (⟨"java/lang/String", "charAt", "(I)C"⟩ : MethodName)) (z := (⟨"java/lang/String", "charAt", "(I)C"⟩ : MethodName)) hown (mvT hZ (hw _ (List.mem_of_getElem? (i := 10) rfl))) (mvT hZ (hw _ (List.mem_of_getElem? (i := 11) rfl))) (notFace_of_selects (args := #[]) (mvT hZ (hw _ (List.mem_of_getElem? (i := 13) rfl)))) (mvT hZ (hw _ (List.mem_of_getElem? (i := 13) rfl))) (mvT hZ (hw _ (List.mem_of_getElem? (i := 12) rfl))) (by decide) (backOf (W := 0) (rmca l s a0 hw [] a2 ((p3 &&& (2147483647 : Int32)) % rx) v2 (16 : Int32) (own_up ((p3 &&& (2147483647 : Int32)) % rx).toNatClampNeg) cl2 vF cs hp n0 Zh SF' hF SC' hcs Ev2 Fc2 Fv2 Ar2 Sz2 (by decide) k1 k3 (by2 _ k1 k3)) hZ (hw _ (List.mem_of_getElem? (i := 14) rfl)) (hw _ (List.mem_of_getElem? (i := 1) rfl)) (by decide) (by decide)) q17a q17c (g := (mkF m 51 #[.val (.int p1), .val (.int p2), .val (.int p3), .val (.ref a1), .val (.ref a2), .val (.int rx), .val (.int ((p3 &&& (2147483647 : Int32)) % rx)), .unset, .unset, .unset] [(.int ((p3 &&& (2147483647 : Int32)) % rx)), (.ref a2)])) rfl (by rw [hml]; rfl) (Steps.refl _) (argsL := [(.int ((p3 &&& (2147483647 : Int32)) % rx))]) (rest := []) (lenOf pd_ca rfl) rfl (by show 2 * 0 + _ ≤ _; exact Nat.le_of_eq rfl) (hb hby at_51) (fun _ _ => ⟨rfl, e16, (by decide : 4 + 0 ≤ _), (by decide : 136 + 0 ≤ _)⟩)
    dsimp only [Pt.U, Pt.locs, Pt.cells, Pt.slots] at X17 l17 y17 z17 st17 hQ17
    subst l17 y17 z17
    obtain ⟨rfl, N17q, e17⟩ := hQ17
    have N17 := Fr.app N16 N17q
    refine Goes.step (S' := T17.setTop (mkF m 54 #[.val (.int p1), .val (.int p2), .val (.int p3), .val (.ref a1), .val (.ref a2), .val (.int rx), .val (.int ((p3 &&& (2147483647 : Int32)) % rx)), .unset, .unset, .unset] [(.int (own_up ((p3 &&& (2147483647 : Int32)) % rx).toNatClampNeg &&& (255 : Int32)))])) (fun t k => st17.trans k) ?_
    refine Goes.step (S' := T17.setTop (mkF m 56 #[.val (.int p1), .val (.int p2), .val (.int p3), .val (.ref a1), .val (.ref a2), .val (.int rx), .val (.int ((p3 &&& (2147483647 : Int32)) % rx)), .unset, .unset, .unset] [(.int rx), (.int (own_up ((p3 &&& (2147483647 : Int32)) % rx).toNatClampNeg &&& (255 : Int32)))])) (fun t k => XS.iload X17.here hx rfl (hb hby at_54) rfl k) ?_
    obtain ⟨_, _, ⟨T18, L18, k18, n18⟩, -, X18, ⟨Lc18, hQ18, l18, y18, z18⟩, st18⟩ := Jvm.LawKit.callS X17 hx (y := (⟨"com/example/plumb_xml/plumbxml/XmlChars", "digitValue", "(II)I"⟩ : MethodName)) hown (mvT hZ (hw _ (List.mem_of_getElem? (i := 35) rfl))) (mvT hZ (hw _ (List.mem_of_getElem? (i := 36) rfl))) (mvT hZ (hw _ (List.mem_of_getElem? (i := 37) rfl))) (mvT hZ (hw _ (List.mem_of_getElem? (i := 38) rfl))) (by decide) (backOf (W := 0) (rmdv l s a0 hw [] (own_up ((p3 &&& (2147483647 : Int32)) % rx).toNatClampNeg &&& (255 : Int32)) rx hp n0 Zh) hZ (hw _ (List.mem_of_getElem? (i := 38) rfl)) (hw _ (List.mem_of_getElem? (i := 37) rfl)) (by decide) (by decide)) (g := (mkF m 56 #[.val (.int p1), .val (.int p2), .val (.int p3), .val (.ref a1), .val (.ref a2), .val (.int rx), .val (.int ((p3 &&& (2147483647 : Int32)) % rx)), .unset, .unset, .unset] [(.int rx), (.int (own_up ((p3 &&& (2147483647 : Int32)) % rx).toNatClampNeg &&& (255 : Int32)))])) rfl (by rw [hml]; rfl) (argsL := [(.int (own_up ((p3 &&& (2147483647 : Int32)) % rx).toNatClampNeg &&& (255 : Int32))), (.int rx)]) (rest := []) (lenOf pd_dv rfl) rfl (by show 2 * 0 + _ ≤ _; exact Nat.le_of_eq rfl) (hb hby at_56) (fun _ _ => ⟨rfl, e17, (by decide : 4 + 0 ≤ _), (by decide : 136 + 0 ≤ _)⟩)
    dsimp only [Pt.U, Pt.locs, Pt.cells, Pt.slots] at X18 l18 y18 z18 st18 hQ18
    subst l18 y18 z18
    obtain ⟨rfl, N18q, e18⟩ := hQ18
    have N18 := Fr.app N17 N18q
    refine Goes.step (S' := T18.setTop (mkF m 59 #[.val (.int p1), .val (.int p2), .val (.int p3), .val (.ref a1), .val (.ref a2), .val (.int rx), .val (.int ((p3 &&& (2147483647 : Int32)) % rx)), .unset, .unset, .unset] [(.int (own_d1 (own_up ((p3 &&& (2147483647 : Int32)) % rx).toNatClampNeg &&& (255 : Int32)) rx))])) (fun t k => st18 t k) ?_
    refine Goes.step (S' := T18.setTop (mkF m 61 #[.val (.int p1), .val (.int p2), .val (.int p3), .val (.ref a1), .val (.ref a2), .val (.int rx), .val (.int ((p3 &&& (2147483647 : Int32)) % rx)), .unset, .unset, .unset] [(.int ((p3 &&& (2147483647 : Int32)) % rx)), (.int (own_d1 (own_up ((p3 &&& (2147483647 : Int32)) % rx).toNatClampNeg &&& (255 : Int32)) rx))])) (fun t k => XS.iload X18.here hx rfl (hb hby at_59) rfl k) ?_
    refine Goes.step (S' := T18.setTop (mkF m 64 #[.val (.int p1), .val (.int p2), .val (.int p3), .val (.ref a1), .val (.ref a2), .val (.int rx), .val (.int ((p3 &&& (2147483647 : Int32)) % rx)), .unset, .unset, .unset] [])) (fun t k => XS.icmpNo X18.here hx rfl (hb hby at_61) rfl (teq d2).2 k) ?_
    refine Goes.step (S' := T18.setTop (mkF m 65 #[.val (.int p1), .val (.int p2), .val (.int p3), .val (.ref a1), .val (.ref a2), .val (.int rx), .val (.int ((p3 &&& (2147483647 : Int32)) % rx)), .unset, .unset, .unset] [(.int (1 : Int32))])) (fun t k => XS.iconst X18.here hx rfl (hb hby at_64) k) ?_
    refine Goes.step (S' := T18.setTop (mkF m 69 #[.val (.int p1), .val (.int p2), .val (.int p3), .val (.ref a1), .val (.ref a2), .val (.int rx), .val (.int ((p3 &&& (2147483647 : Int32)) % rx)), .unset, .unset, .unset] [(.int (1 : Int32))])) (fun t k => XS.goto X18.here hx rfl (pc0 := 65) (pc' := 69) rfl (hb hby at_65) (by decide) (by decide) k) ?_
    refine Goes.step (S' := T18.setTop (mkF m 71 #[.val (.int p1), .val (.int p2), .val (.int p3), .val (.ref a1), .val (.ref a2), .val (.int rx), .val (.int ((p3 &&& (2147483647 : Int32)) % rx)), .val (.int (1 : Int32)), .unset, .unset] [])) (fun t k => XS.istore X18.here hx rfl (hb hby at_69) rfl (l' := #[.val (.int p1), .val (.int p2), .val (.int p3), .val (.ref a1), .val (.ref a2), .val (.int rx), .val (.int ((p3 &&& (2147483647 : Int32)) % rx)), .val (.int (1 : Int32)), .unset, .unset]) rfl k) ?_
    refine Goes.step (S' := T18.setTop (mkF m 72 #[.val (.int p1), .val (.int p2), .val (.int p3), .val (.ref a1), .val (.ref a2), .val (.int rx), .val (.int ((p3 &&& (2147483647 : Int32)) % rx)), .val (.int (1 : Int32)), .unset, .unset] [(.int p1)])) (fun t k => XS.iloadN X18.here hx rfl (hb hby at_71) rfl k) ?_
    refine Goes.step (S' := T18.setTop (mkF m 74 #[.val (.int p1), .val (.int p2), .val (.int p3), .val (.ref a1), .val (.ref a2), .val (.int rx), .val (.int ((p3 &&& (2147483647 : Int32)) % rx)), .val (.int (1 : Int32)), .unset, .unset] [(.int rx), (.int p1)])) (fun t k => XS.iload X18.here hx rfl (hb hby at_72) rfl k) ?_
    obtain ⟨_, _, ⟨T19, L19, k19, n19⟩, -, X19, ⟨Lc19, hQ19, l19, y19, z19⟩, st19⟩ := Jvm.LawKit.callS X18 hx (y := (⟨"com/example/plumb_xml/plumbxml/XmlChars", "digitValue", "(II)I"⟩ : MethodName)) hown (mvT hZ (hw _ (List.mem_of_getElem? (i := 35) rfl))) (mvT hZ (hw _ (List.mem_of_getElem? (i := 36) rfl))) (mvT hZ (hw _ (List.mem_of_getElem? (i := 37) rfl))) (mvT hZ (hw _ (List.mem_of_getElem? (i := 38) rfl))) (by decide) (backOf (W := 0) (rmdv l s a0 hw [] p1 rx hp n0 Zh) hZ (hw _ (List.mem_of_getElem? (i := 38) rfl)) (hw _ (List.mem_of_getElem? (i := 37) rfl)) (by decide) (by decide)) (g := (mkF m 74 #[.val (.int p1), .val (.int p2), .val (.int p3), .val (.ref a1), .val (.ref a2), .val (.int rx), .val (.int ((p3 &&& (2147483647 : Int32)) % rx)), .val (.int (1 : Int32)), .unset, .unset] [(.int rx), (.int p1)])) rfl (by rw [hml]; rfl) (argsL := [(.int p1), (.int rx)]) (rest := []) (lenOf pd_dv rfl) rfl (by show 2 * 0 + _ ≤ _; exact Nat.le_of_eq rfl) (hb hby at_74) (fun _ _ => ⟨rfl, e18, (by decide : 4 + 0 ≤ _), (by decide : 136 + 0 ≤ _)⟩)
    dsimp only [Pt.U, Pt.locs, Pt.cells, Pt.slots] at X19 l19 y19 z19 st19 hQ19
    subst l19 y19 z19
    obtain ⟨rfl, N19q, e19⟩ := hQ19
    have N19 := Fr.app N18 N19q
    refine Goes.step (S' := T19.setTop (mkF m 77 #[.val (.int p1), .val (.int p2), .val (.int p3), .val (.ref a1), .val (.ref a2), .val (.int rx), .val (.int ((p3 &&& (2147483647 : Int32)) % rx)), .val (.int (1 : Int32)), .unset, .unset] [(.int (own_d1 p1 rx))])) (fun t k => st19 t k) ?_
    refine Goes.step (S' := T19.setTop (mkF m 79 #[.val (.int p1), .val (.int p2), .val (.int p3), .val (.ref a1), .val (.ref a2), .val (.int rx), .val (.int ((p3 &&& (2147483647 : Int32)) % rx)), .val (.int (1 : Int32)), .val (.int (own_d1 p1 rx)), .unset] [])) (fun t k => XS.istore X19.here hx rfl (hb hby at_77) rfl (l' := #[.val (.int p1), .val (.int p2), .val (.int p3), .val (.ref a1), .val (.ref a2), .val (.int rx), .val (.int ((p3 &&& (2147483647 : Int32)) % rx)), .val (.int (1 : Int32)), .val (.int (own_d1 p1 rx)), .unset]) rfl k) ?_
    refine Goes.step (S' := T19.setTop (mkF m 81 #[.val (.int p1), .val (.int p2), .val (.int p3), .val (.ref a1), .val (.ref a2), .val (.int rx), .val (.int ((p3 &&& (2147483647 : Int32)) % rx)), .val (.int (1 : Int32)), .val (.int (own_d1 p1 rx)), .unset] [(.int (own_d1 p1 rx))])) (fun t k => XS.iload X19.here hx rfl (hb hby at_79) rfl k) ?_
    refine Goes.step (S' := T19.setTop (mkF m 82 #[.val (.int p1), .val (.int p2), .val (.int p3), .val (.ref a1), .val (.ref a2), .val (.int rx), .val (.int ((p3 &&& (2147483647 : Int32)) % rx)), .val (.int (1 : Int32)), .val (.int (own_d1 p1 rx)), .unset] [(.int (-1 : Int32)), (.int (own_d1 p1 rx))])) (fun t k => XS.iconst X19.here hx rfl (hb hby at_81) k) ?_
    have K137 : ∀ (T20 : State) (L20 : List Loc) (X20 : Stand p l e room_1 (s.setVm T2.vm) m #[(.int p1), (.int p2), (.int p3)] below meth c T20 L20 4 136) (e20 : T20.heap = hp) (N20 : Fr n0 L20), Goes p e below (R0 s p1 p2 p3 vF cs h0 n0 s) (T20.setTop (mkF m 137 #[.val (.int p1), .val (.int p2), .val (.int p3), .val (.ref a1), .val (.ref a2), .val (.int rx), .val (.int ((p3 &&& (2147483647 : Int32)) % rx)), .val (.int (1 : Int32)), .val (.int (own_d1 p1 rx)), .val (.int (1 : Int32))] [])) := by
      intro T20 L20 X20 e20 N20
      refine Goes.step (S' := T20.setTop (mkF m 139 #[.val (.int p1), .val (.int p2), .val (.int p3), .val (.ref a1), .val (.ref a2), .val (.int rx), .val (.int ((p3 &&& (2147483647 : Int32)) % rx)), .val (.int (1 : Int32)), .val (.int (own_d1 p1 rx)), .val (.int (1 : Int32))] [(.int (1 : Int32))])) (fun t k => XS.iload X20.here hx rfl (hb hby at_137) rfl k) ?_
      refine Goes.step (S' := T20.setTop (mkF m 142 #[.val (.int p1), .val (.int p2), .val (.int p3), .val (.ref a1), .val (.ref a2), .val (.int rx), .val (.int ((p3 &&& (2147483647 : Int32)) % rx)), .val (.int (1 : Int32)), .val (.int (own_d1 p1 rx)), .val (.int (1 : Int32))] [])) (fun t k => XS.ifNo X20.here hx rfl (hb hby at_139) rfl ((if0 _ _).trans (feq (by decide : ¬ (1 : Int32) = (0 : Int32))).1) k) ?_
      refine Goes.step (S' := T20.setTop (mkF m 144 #[.val (.int p1), .val (.int p2), .val (.int p3), .val (.ref a1), .val (.ref a2), .val (.int rx), .val (.int ((p3 &&& (2147483647 : Int32)) % rx)), .val (.int (1 : Int32)), .val (.int (own_d1 p1 rx)), .val (.int (1 : Int32))] [(.int (1 : Int32))])) (fun t k => XS.iload X20.here hx rfl (hb hby at_142) rfl k) ?_
      refine Goes.step (S' := T20.setTop (mkF m 147 #[.val (.int p1), .val (.int p2), .val (.int p3), .val (.ref a1), .val (.ref a2), .val (.int rx), .val (.int ((p3 &&& (2147483647 : Int32)) % rx)), .val (.int (1 : Int32)), .val (.int (own_d1 p1 rx)), .val (.int (1 : Int32))] [])) (fun t k => XS.ifNo X20.here hx rfl (hb hby at_144) rfl ((if0 _ _).trans (feq (by decide : ¬ (1 : Int32) = (0 : Int32))).1) k) ?_
      refine Goes.step (S' := T20.setTop (mkF m 148 #[.val (.int p1), .val (.int p2), .val (.int p3), .val (.ref a1), .val (.ref a2), .val (.int rx), .val (.int ((p3 &&& (2147483647 : Int32)) % rx)), .val (.int (1 : Int32)), .val (.int (own_d1 p1 rx)), .val (.int (1 : Int32))] [(.int (1 : Int32))])) (fun t k => XS.iconst X20.here hx rfl (hb hby at_147) k) ?_
      refine Goes.step (S' := T20.setTop (mkF m 152 #[.val (.int p1), .val (.int p2), .val (.int p3), .val (.ref a1), .val (.ref a2), .val (.int rx), .val (.int ((p3 &&& (2147483647 : Int32)) % rx)), .val (.int (1 : Int32)), .val (.int (own_d1 p1 rx)), .val (.int (1 : Int32))] [(.int (1 : Int32))])) (fun t k => XS.goto X20.here hx rfl (pc0 := 148) (pc' := 152) rfl (hb hby at_148) (by decide) (by decide) k) ?_
      obtain ⟨fs, hr, hrun, hended, w1, w2, w3, w4⟩ := X20.leaveW (n := hp.size) (eh ▸ hS) (by rw [e20]; exact Nat.le_refl _) (v := some (.int (1 : Int32))) (fun h => by rw [Bd.returns] at h; cases h)
      exact ⟨_, _, retN X20 hx (t := .boolean) Bd.returns (by simp) (hb hby at_152) hr, hrun, hended, _, _, rfl, ⟨rfl, N20⟩, w1, w2, w3, w4.mono (by decide) (by decide)⟩
    by_cases c1 : (own_d1 p1 rx) = (-1 : Int32)
    · refine Goes.step (S' := T19.setTop (mkF m 85 #[.val (.int p1), .val (.int p2), .val (.int p3), .val (.ref a1), .val (.ref a2), .val (.int rx), .val (.int ((p3 &&& (2147483647 : Int32)) % rx)), .val (.int (1 : Int32)), .val (.int (own_d1 p1 rx)), .unset] [])) (fun t k => XS.icmpNo X19.here hx rfl (hb hby at_82) rfl (teq c1).2 k) ?_
      refine Goes.step (S' := T19.setTop (mkF m 86 #[.val (.int p1), .val (.int p2), .val (.int p3), .val (.ref a1), .val (.ref a2), .val (.int rx), .val (.int ((p3 &&& (2147483647 : Int32)) % rx)), .val (.int (1 : Int32)), .val (.int (own_d1 p1 rx)), .unset] [(.int (1 : Int32))])) (fun t k => XS.iconst X19.here hx rfl (hb hby at_85) k) ?_
      refine Goes.step (S' := T19.setTop (mkF m 88 #[.val (.int p1), .val (.int p2), .val (.int p3), .val (.ref a1), .val (.ref a2), .val (.int rx), .val (.int ((p3 &&& (2147483647 : Int32)) % rx)), .val (.int (1 : Int32)), .val (.int (own_d1 p1 rx)), .val (.int (1 : Int32))] [])) (fun t k => XS.istore X19.here hx rfl (hb hby at_86) rfl (l' := #[.val (.int p1), .val (.int p2), .val (.int p3), .val (.ref a1), .val (.ref a2), .val (.int rx), .val (.int ((p3 &&& (2147483647 : Int32)) % rx)), .val (.int (1 : Int32)), .val (.int (own_d1 p1 rx)), .val (.int (1 : Int32))]) rfl k) ?_
      refine Goes.step (S' := T19.setTop (mkF m 137 #[.val (.int p1), .val (.int p2), .val (.int p3), .val (.ref a1), .val (.ref a2), .val (.int rx), .val (.int ((p3 &&& (2147483647 : Int32)) % rx)), .val (.int (1 : Int32)), .val (.int (own_d1 p1 rx)), .val (.int (1 : Int32))] [])) (fun t k => XS.goto X19.here hx rfl (pc0 := 88) (pc' := 137) rfl (hb hby at_88) (by decide) (by decide) k) ?_
      exact K137 _ _ X19 e19 N19
    · refine Goes.step (S' := T19.setTop (mkF m 91 #[.val (.int p1), .val (.int p2), .val (.int p3), .val (.ref a1), .val (.ref a2), .val (.int rx), .val (.int ((p3 &&& (2147483647 : Int32)) % rx)), .val (.int (1 : Int32)), .val (.int (own_d1 p1 rx)), .unset] [])) (fun t k => XS.icmpYes X19.here hx rfl (pc0 := 82) (pc' := 91) rfl (hb hby at_82) rfl (feq c1).2 (by decide) (by decide) k) ?_
      obtain ⟨g1, g2, g3⟩ := own_good hr c1
      have g4 := own_lt16 hr g2
      refine Goes.step (S' := T19.setTop (mkF m 93 #[.val (.int p1), .val (.int p2), .val (.int p3), .val (.ref a1), .val (.ref a2), .val (.int rx), .val (.int ((p3 &&& (2147483647 : Int32)) % rx)), .val (.int (1 : Int32)), .val (.int (own_d1 p1 rx)), .unset] [(.int (own_d1 p1 rx))])) (fun t k => XS.iload X19.here hx rfl (hb hby at_91) rfl k) ?_
      refine Goes.step (S' := T19.setTop (mkF m 96 #[.val (.int p1), .val (.int p2), .val (.int p3), .val (.ref a1), .val (.ref a2), .val (.int rx), .val (.int ((p3 &&& (2147483647 : Int32)) % rx)), .val (.int (1 : Int32)), .val (.int (own_d1 p1 rx)), .unset] [])) (fun t k => XS.ifNo X19.here hx rfl (hb hby at_93) rfl ((if0 _ _).trans (flt g1).1) k) ?_
      refine Goes.step (S' := T19.setTop (mkF m 98 #[.val (.int p1), .val (.int p2), .val (.int p3), .val (.ref a1), .val (.ref a2), .val (.int rx), .val (.int ((p3 &&& (2147483647 : Int32)) % rx)), .val (.int (1 : Int32)), .val (.int (own_d1 p1 rx)), .unset] [(.int (own_d1 p1 rx))])) (fun t k => XS.iload X19.here hx rfl (hb hby at_96) rfl k) ?_
      refine Goes.step (S' := T19.setTop (mkF m 100 #[.val (.int p1), .val (.int p2), .val (.int p3), .val (.ref a1), .val (.ref a2), .val (.int rx), .val (.int ((p3 &&& (2147483647 : Int32)) % rx)), .val (.int (1 : Int32)), .val (.int (own_d1 p1 rx)), .unset] [(.int rx), (.int (own_d1 p1 rx))])) (fun t k => XS.iload X19.here hx rfl (hb hby at_98) rfl k) ?_
      refine Goes.step (S' := T19.setTop (mkF m 103 #[.val (.int p1), .val (.int p2), .val (.int p3), .val (.ref a1), .val (.ref a2), .val (.int rx), .val (.int ((p3 &&& (2147483647 : Int32)) % rx)), .val (.int (1 : Int32)), .val (.int (own_d1 p1 rx)), .unset] [])) (fun t k => XS.icmpNo X19.here hx rfl (hb hby at_100) rfl (tlt g2).2.1 k) ?_
      refine Goes.step (S' := T19.setTop (mkF m 104 #[.val (.int p1), .val (.int p2), .val (.int p3), .val (.ref a1), .val (.ref a2), .val (.int rx), .val (.int ((p3 &&& (2147483647 : Int32)) % rx)), .val (.int (1 : Int32)), .val (.int (own_d1 p1 rx)), .unset] [(.ref a1)])) (fun t k => XS.aloadN X19.here hx rfl (hb hby at_103) rfl rfl k) ?_
      refine Goes.step (S' := T19.setTop (mkF m 106 #[.val (.int p1), .val (.int p2), .val (.int p3), .val (.ref a1), .val (.ref a2), .val (.int rx), .val (.int ((p3 &&& (2147483647 : Int32)) % rx)), .val (.int (1 : Int32)), .val (.int (own_d1 p1 rx)), .unset] [(.int (own_d1 p1 rx)), (.ref a1)])) (fun t k => XS.iload X19.here hx rfl (hb hby at_104) rfl k) ?_
      obtain ⟨cq21, kq21, q21a, q21b, q21c⟩ := isOf hZ e19 Ev1
      obtain ⟨_, _, ⟨T21, L21, k21, n21⟩, -, X21, ⟨Lc21, hQ21, l21, y21, z21⟩, st21⟩ := X19.virtualBack hx (y := (⟨"java/lang/String", "charAt", "(I)C"⟩ : MethodName)) (z := (⟨"java/lang/String", "charAt", "(I)C"⟩ : MethodName)) hown (mvT hZ (hw _ (List.mem_of_getElem? (i := 10) rfl))) (mvT hZ (hw _ (List.mem_of_getElem? (i := 11) rfl))) (notFace_of_selects (args := #[]) (mvT hZ (hw _ (List.mem_of_getElem? (i := 13) rfl)))) (mvT hZ (hw _ (List.mem_of_getElem? (i := 13) rfl))) (mvT hZ (hw _ (List.mem_of_getElem? (i := 12) rfl))) (by decide) (backOf (W := 0) (rmca l s a0 hw [] a1 (own_d1 p1 rx) v1 (16 : Int32) (own_lo (own_d1 p1 rx).toNatClampNeg) cl1 vF cs hp n0 Zh SF' hF SC' hcs Ev1 Fc1 Fv1 Ar1 Sz1 (by decide) g1 g4 (by1 _ g1 g4)) hZ (hw _ (List.mem_of_getElem? (i := 14) rfl)) (hw _ (List.mem_of_getElem? (i := 1) rfl)) (by decide) (by decide)) q21a q21c (g := (mkF m 106 #[.val (.int p1), .val (.int p2), .val (.int p3), .val (.ref a1), .val (.ref a2), .val (.int rx), .val (.int ((p3 &&& (2147483647 : Int32)) % rx)), .val (.int (1 : Int32)), .val (.int (own_d1 p1 rx)), .unset] [(.int (own_d1 p1 rx)), (.ref a1)])) rfl (by rw [hml]; rfl) (Steps.refl _) (argsL := [(.int (own_d1 p1 rx))]) (rest := []) (lenOf pd_ca rfl) rfl (by show 2 * 0 + _ ≤ _; exact Nat.le_of_eq rfl) (hb hby at_106) (fun _ _ => ⟨rfl, e19, (by decide : 4 + 0 ≤ _), (by decide : 136 + 0 ≤ _)⟩)
      dsimp only [Pt.U, Pt.locs, Pt.cells, Pt.slots] at X21 l21 y21 z21 st21 hQ21
      subst l21 y21 z21
      obtain ⟨rfl, N21q, e21⟩ := hQ21
      have N21 := Fr.app N19 N21q
      refine Goes.step (S' := T21.setTop (mkF m 109 #[.val (.int p1), .val (.int p2), .val (.int p3), .val (.ref a1), .val (.ref a2), .val (.int rx), .val (.int ((p3 &&& (2147483647 : Int32)) % rx)), .val (.int (1 : Int32)), .val (.int (own_d1 p1 rx)), .unset] [(.int (own_lo (own_d1 p1 rx).toNatClampNeg &&& (255 : Int32)))])) (fun t k => st21.trans k) ?_
      refine Goes.step (S' := T21.setTop (mkF m 110 #[.val (.int p1), .val (.int p2), .val (.int p3), .val (.ref a1), .val (.ref a2), .val (.int rx), .val (.int ((p3 &&& (2147483647 : Int32)) % rx)), .val (.int (1 : Int32)), .val (.int (own_d1 p1 rx)), .unset] [(.int p1), (.int (own_lo (own_d1 p1 rx).toNatClampNeg &&& (255 : Int32)))])) (fun t k => XS.iloadN X21.here hx rfl (hb hby at_109) rfl k) ?_
      by_cases c2 : (own_lo (own_d1 p1 rx).toNatClampNeg &&& (255 : Int32)) = p1
      · refine Goes.step (S' := T21.setTop (mkF m 124 #[.val (.int p1), .val (.int p2), .val (.int p3), .val (.ref a1), .val (.ref a2), .val (.int rx), .val (.int ((p3 &&& (2147483647 : Int32)) % rx)), .val (.int (1 : Int32)), .val (.int (own_d1 p1 rx)), .unset] [])) (fun t k => XS.icmpYes X21.here hx rfl (pc0 := 110) (pc' := 124) rfl (hb hby at_110) rfl (teq c2).1 (by decide) (by decide) k) ?_
        refine Goes.step (S' := T21.setTop (mkF m 125 #[.val (.int p1), .val (.int p2), .val (.int p3), .val (.ref a1), .val (.ref a2), .val (.int rx), .val (.int ((p3 &&& (2147483647 : Int32)) % rx)), .val (.int (1 : Int32)), .val (.int (own_d1 p1 rx)), .unset] [(.int (1 : Int32))])) (fun t k => XS.iconst X21.here hx rfl (hb hby at_124) k) ?_
        refine Goes.step (S' := T21.setTop (mkF m 129 #[.val (.int p1), .val (.int p2), .val (.int p3), .val (.ref a1), .val (.ref a2), .val (.int rx), .val (.int ((p3 &&& (2147483647 : Int32)) % rx)), .val (.int (1 : Int32)), .val (.int (own_d1 p1 rx)), .unset] [(.int (1 : Int32))])) (fun t k => XS.goto X21.here hx rfl (pc0 := 125) (pc' := 129) rfl (hb hby at_125) (by decide) (by decide) k) ?_
        refine Goes.step (S' := T21.setTop (mkF m 131 #[.val (.int p1), .val (.int p2), .val (.int p3), .val (.ref a1), .val (.ref a2), .val (.int rx), .val (.int ((p3 &&& (2147483647 : Int32)) % rx)), .val (.int (1 : Int32)), .val (.int (own_d1 p1 rx)), .val (.int (1 : Int32))] [])) (fun t k => XS.istore X21.here hx rfl (hb hby at_129) rfl (l' := #[.val (.int p1), .val (.int p2), .val (.int p3), .val (.ref a1), .val (.ref a2), .val (.int rx), .val (.int ((p3 &&& (2147483647 : Int32)) % rx)), .val (.int (1 : Int32)), .val (.int (own_d1 p1 rx)), .val (.int (1 : Int32))]) rfl k) ?_
        refine Goes.step (S' := T21.setTop (mkF m 137 #[.val (.int p1), .val (.int p2), .val (.int p3), .val (.ref a1), .val (.ref a2), .val (.int rx), .val (.int ((p3 &&& (2147483647 : Int32)) % rx)), .val (.int (1 : Int32)), .val (.int (own_d1 p1 rx)), .val (.int (1 : Int32))] [])) (fun t k => XS.goto X21.here hx rfl (pc0 := 131) (pc' := 137) rfl (hb hby at_131) (by decide) (by decide) k) ?_
        exact K137 _ _ X21 e21 N21
      · refine Goes.step (S' := T21.setTop (mkF m 113 #[.val (.int p1), .val (.int p2), .val (.int p3), .val (.ref a1), .val (.ref a2), .val (.int rx), .val (.int ((p3 &&& (2147483647 : Int32)) % rx)), .val (.int (1 : Int32)), .val (.int (own_d1 p1 rx)), .unset] [])) (fun t k => XS.icmpNo X21.here hx rfl (hb hby at_110) rfl (feq c2).1 k) ?_
        refine Goes.step (S' := T21.setTop (mkF m 115 #[.val (.int p1), .val (.int p2), .val (.int p3), .val (.ref a1), .val (.ref a2), .val (.int rx), .val (.int ((p3 &&& (2147483647 : Int32)) % rx)), .val (.int (1 : Int32)), .val (.int (own_d1 p1 rx)), .unset] [(.ref a2)])) (fun t k => XS.aload X21.here hx rfl (hb hby at_113) rfl rfl k) ?_
        refine Goes.step (S' := T21.setTop (mkF m 117 #[.val (.int p1), .val (.int p2), .val (.int p3), .val (.ref a1), .val (.ref a2), .val (.int rx), .val (.int ((p3 &&& (2147483647 : Int32)) % rx)), .val (.int (1 : Int32)), .val (.int (own_d1 p1 rx)), .unset] [(.int (own_d1 p1 rx)), (.ref a2)])) (fun t k => XS.iload X21.here hx rfl (hb hby at_115) rfl k) ?_
        obtain ⟨cq22, kq22, q22a, q22b, q22c⟩ := isOf hZ e21 Ev2
        obtain ⟨_, _, ⟨T22, L22, k22, n22⟩, -, X22, ⟨Lc22, hQ22, l22, y22, z22⟩, st22⟩ := X21.virtualBack hx (y := (⟨"java/lang/String", "charAt", "(I)C"⟩ : MethodName)) (z := (⟨"java/lang/String", "charAt", "(I)C"⟩ : MethodName)) hown (mvT hZ (hw _ (List.mem_of_getElem? (i := 10) rfl))) (mvT hZ (hw _ (List.mem_of_getElem? (i := 11) rfl))) (notFace_of_selects (args := #[]) (mvT hZ (hw _ (List.mem_of_getElem? (i := 13) rfl)))) (mvT hZ (hw _ (List.mem_of_getElem? (i := 13) rfl))) (mvT hZ (hw _ (List.mem_of_getElem? (i := 12) rfl))) (by decide) (backOf (W := 0) (rmca l s a0 hw [] a2 (own_d1 p1 rx) v2 (16 : Int32) (own_up (own_d1 p1 rx).toNatClampNeg) cl2 vF cs hp n0 Zh SF' hF SC' hcs Ev2 Fc2 Fv2 Ar2 Sz2 (by decide) g1 g4 (by2 _ g1 g4)) hZ (hw _ (List.mem_of_getElem? (i := 14) rfl)) (hw _ (List.mem_of_getElem? (i := 1) rfl)) (by decide) (by decide)) q22a q22c (g := (mkF m 117 #[.val (.int p1), .val (.int p2), .val (.int p3), .val (.ref a1), .val (.ref a2), .val (.int rx), .val (.int ((p3 &&& (2147483647 : Int32)) % rx)), .val (.int (1 : Int32)), .val (.int (own_d1 p1 rx)), .unset] [(.int (own_d1 p1 rx)), (.ref a2)])) rfl (by rw [hml]; rfl) (Steps.refl _) (argsL := [(.int (own_d1 p1 rx))]) (rest := []) (lenOf pd_ca rfl) rfl (by show 2 * 0 + _ ≤ _; exact Nat.le_of_eq rfl) (hb hby at_117) (fun _ _ => ⟨rfl, e21, (by decide : 4 + 0 ≤ _), (by decide : 136 + 0 ≤ _)⟩)
        dsimp only [Pt.U, Pt.locs, Pt.cells, Pt.slots] at X22 l22 y22 z22 st22 hQ22
        subst l22 y22 z22
        obtain ⟨rfl, N22q, e22⟩ := hQ22
        have N22 := Fr.app N21 N22q
        refine Goes.step (S' := T22.setTop (mkF m 120 #[.val (.int p1), .val (.int p2), .val (.int p3), .val (.ref a1), .val (.ref a2), .val (.int rx), .val (.int ((p3 &&& (2147483647 : Int32)) % rx)), .val (.int (1 : Int32)), .val (.int (own_d1 p1 rx)), .unset] [(.int (own_up (own_d1 p1 rx).toNatClampNeg &&& (255 : Int32)))])) (fun t k => st22.trans k) ?_
        refine Goes.step (S' := T22.setTop (mkF m 121 #[.val (.int p1), .val (.int p2), .val (.int p3), .val (.ref a1), .val (.ref a2), .val (.int rx), .val (.int ((p3 &&& (2147483647 : Int32)) % rx)), .val (.int (1 : Int32)), .val (.int (own_d1 p1 rx)), .unset] [(.int p1), (.int (own_up (own_d1 p1 rx).toNatClampNeg &&& (255 : Int32)))])) (fun t k => XS.iloadN X22.here hx rfl (hb hby at_120) rfl k) ?_
        refine Goes.step (S' := T22.setTop (mkF m 124 #[.val (.int p1), .val (.int p2), .val (.int p3), .val (.ref a1), .val (.ref a2), .val (.int rx), .val (.int ((p3 &&& (2147483647 : Int32)) % rx)), .val (.int (1 : Int32)), .val (.int (own_d1 p1 rx)), .unset] [])) (fun t k => XS.icmpNo X22.here hx rfl (hb hby at_121) rfl (teq (g3.resolve_left c2)).2 k) ?_
        refine Goes.step (S' := T22.setTop (mkF m 125 #[.val (.int p1), .val (.int p2), .val (.int p3), .val (.ref a1), .val (.ref a2), .val (.int rx), .val (.int ((p3 &&& (2147483647 : Int32)) % rx)), .val (.int (1 : Int32)), .val (.int (own_d1 p1 rx)), .unset] [(.int (1 : Int32))])) (fun t k => XS.iconst X22.here hx rfl (hb hby at_124) k) ?_
        refine Goes.step (S' := T22.setTop (mkF m 129 #[.val (.int p1), .val (.int p2), .val (.int p3), .val (.ref a1), .val (.ref a2), .val (.int rx), .val (.int ((p3 &&& (2147483647 : Int32)) % rx)), .val (.int (1 : Int32)), .val (.int (own_d1 p1 rx)), .unset] [(.int (1 : Int32))])) (fun t k => XS.goto X22.here hx rfl (pc0 := 125) (pc' := 129) rfl (hb hby at_125) (by decide) (by decide) k) ?_
        refine Goes.step (S' := T22.setTop (mkF m 131 #[.val (.int p1), .val (.int p2), .val (.int p3), .val (.ref a1), .val (.ref a2), .val (.int rx), .val (.int ((p3 &&& (2147483647 : Int32)) % rx)), .val (.int (1 : Int32)), .val (.int (own_d1 p1 rx)), .val (.int (1 : Int32))] [])) (fun t k => XS.istore X22.here hx rfl (hb hby at_129) rfl (l' := #[.val (.int p1), .val (.int p2), .val (.int p3), .val (.ref a1), .val (.ref a2), .val (.int rx), .val (.int ((p3 &&& (2147483647 : Int32)) % rx)), .val (.int (1 : Int32)), .val (.int (own_d1 p1 rx)), .val (.int (1 : Int32))]) rfl k) ?_
        refine Goes.step (S' := T22.setTop (mkF m 137 #[.val (.int p1), .val (.int p2), .val (.int p3), .val (.ref a1), .val (.ref a2), .val (.int rx), .val (.int ((p3 &&& (2147483647 : Int32)) % rx)), .val (.int (1 : Int32)), .val (.int (own_d1 p1 rx)), .val (.int (1 : Int32))] [])) (fun t k => XS.goto X22.here hx rfl (pc0 := 131) (pc' := 137) rfl (hb hby at_131) (by decide) (by decide) k) ?_
        exact K137 _ _ X22 e22 N22
  by_cases m0 : (p2 &&& (1 : Int32)) = (0 : Int32)
  · refine Goes.step (S' := T2.setTop (mkF m 13 #[.val (.int p1), .val (.int p2), .val (.int p3), .val (.ref a1), .val (.ref a2), .unset, .unset, .unset, .unset, .unset] [])) (fun t k => XS.ifNo X.here hx rfl (hb hby at_10) rfl ((if0 _ _).trans (teq m0).2) k) ?_
    refine Goes.step (S' := T2.setTop (mkF m 15 #[.val (.int p1), .val (.int p2), .val (.int p3), .val (.ref a1), .val (.ref a2), .unset, .unset, .unset, .unset, .unset] [(.int (10 : Int32))])) (fun t k => XS.bipush X.here hx rfl (hb hby at_13) k) ?_
    refine Goes.step (S' := T2.setTop (mkF m 20 #[.val (.int p1), .val (.int p2), .val (.int p3), .val (.ref a1), .val (.ref a2), .unset, .unset, .unset, .unset, .unset] [(.int (10 : Int32))])) (fun t k => XS.goto X.here hx rfl (pc0 := 15) (pc' := 20) rfl (hb hby at_15) (by decide) (by decide) k) ?_
    exact K20 _ (Or.inl rfl)
  · refine Goes.step (S' := T2.setTop (mkF m 18 #[.val (.int p1), .val (.int p2), .val (.int p3), .val (.ref a1), .val (.ref a2), .unset, .unset, .unset, .unset, .unset] [])) (fun t k => XS.ifYes X.here hx rfl (pc0 := 10) (pc' := 18) rfl (hb hby at_10) rfl ((if0 _ _).trans (feq m0).2) (by decide) (by decide) k) ?_
    refine Goes.step (S' := T2.setTop (mkF m 20 #[.val (.int p1), .val (.int p2), .val (.int p3), .val (.ref a1), .val (.ref a2), .unset, .unset, .unset, .unset, .unset] [(.int (16 : Int32))])) (fun t k => XS.bipush X.here hx rfl (hb hby at_18) k) ?_
    exact K20 _ (Or.inr rfl)
set_option maxRecDepth 65536 in
set_option maxHeartbeats 40000000 in
theorem comes_1 {Post : Tables → Env → Array Value → State → Outcome → State → Prop} (hpost : ∀ tb e args s v u, (limb_1_1.after args s (.returned v) u = true ∧ limb_1_2.after args s (.returned v) u = true ∧ True) → ReturnedEndW s (.returned v) u (Jvm.fieldLocs frame_1_writes args s ++ Jvm.arrayLocs frame_1_arrays args s ++ Jvm.staticLocs frame_1_statics s) 8 2112 → Post tb e args s (.returned v) u) :
    ArmFor flags0 classFile x code maxLocals ret World_1 tables_1 room_1 Calls_1 rest_1 Pre_1 Post := by
  intro l hfl _ _ p e ha hc hk s m args below hf hA hF happ hP
  obtain ⟨hcalls, hrest, hpre⟩ := hP
  obtain ⟨-, -, -, hnamed, -, -, -, hat⟩ := (Spec.applies_iff hf).mp happ
  obtain ⟨hg, hn⟩ := and_e (Cond.before_iff.mp (show (Jvm.Cond.and given_1 narrow_1).before args s = true from hpre))
  obtain ⟨h1, ha0⟩ := and_e hg
  obtain ⟨w0, w1, w2, rfl⟩ : ∃ w0 w1 w2 : Value, args = #[w0, w1, w2] := by
    have hs : args.size = 3 := by simpa [Cond.value, given_1] using h1
    obtain ⟨L⟩ := args
    match L, hs with
    | [w0, w1, w2], _ => exact ⟨w0, w1, w2, rfl⟩
  have hw := fun d (hd : d ∈ tables_1) => atoms_spec (ws := Jvm.Cond.code x code maxLocals ret :: tables_1) hat d (List.mem_cons_of_mem _ hd)
  have hfit : Fit s := fun {y c} hc i hi => by
    obtain ⟨ha, rfl⟩ := Array.getElem?_eq_some_iff.mp hc
    have q := List.all_eq_true.mp ((Array.all_eq_true_iff_forall_mem.mp hF) _ (Array.getElem_mem ha)) i (List.mem_range.mpr hi)
    simpa [Array.getElem?_eq_getElem hi] using q
  obtain ⟨hv0, ha1⟩ := and_e ha0
  obtain ⟨i0, ei0⟩ := is_v hv0
  obtain rfl : w0 = (.int i0) := Option.some.inj ei0
  obtain ⟨hv1, ha2⟩ := and_e ha1
  obtain ⟨i1, ei1⟩ := is_v hv1
  obtain rfl : w1 = (.int i1) := Option.some.inj ei1
  obtain ⟨i2, ei2⟩ := is_v ha2
  obtain rfl : w2 = (.int i2) := Option.some.inj ei2
  obtain ⟨hsets, hown0⟩ := atoms_of _ (rest_1_c_eq ▸ (show rest_1_c.before _ s = true from hrest))
  have nc := not_v (Cond.before_iff.mp (hsets _ (List.mem_of_getElem? (i := 2) rfl)))
  obtain ⟨cs, ecs⟩ := is_v (Cond.before_iff.mp (hsets _ (List.mem_of_getElem? (i := 1) rfl)))
  have SC : Sta s s.heap "java/lang/String" "COMPACT_STRINGS" "Z" (.int cs) := Sta.start ecs (Or.inl (hsets _ (List.mem_of_getElem? (i := 0) rfl)))
  obtain ⟨vF, eF, hF⟩ := isR_v (Cond.before_iff.mp (hsets _ (List.mem_of_getElem? (i := 8) rfl)))
  have SF : Sta s s.heap "jdk/internal/util/Preconditions" "SIOOBE_FORMATTER" "Ljava/util/function/BiFunction;" vF := Sta.start eF (Or.inl (hsets _ (List.mem_of_getElem? (i := 7) rfl)))
  have hcs : ¬ (cs = (0 : Int32)) := gotF (Cond.eq_ints ecs (Term.int_eval (0))) nc
  have hcw : compactW.before #[] s = true := hsets _ (List.mem_of_getElem? (i := 2) rfl)
  have harr : ∀ a, (Jvm.Cond.arrayClass .byte).before a s = true := fun a => mvA (State.Warmed39.refl s) (hw _ (List.mem_of_getElem? (i := 3) rfl))
  have hins : ∀ a, (Jvm.Cond.instantiable "java/lang/String" 4).before a s = true := fun a => mv (State.Warmed39.refl s) (hw _ (List.mem_of_getElem? (i := 2) rfl))
  have H7 := own_held (hcalls.1 ("com/example/plumb_xml/plumbxml/XmlCharsDigitValuePinLaw", 7) (by simp [consts_1])) (hw _ (List.mem_of_getElem? (i := 0) rfl)) (by decide) hcw harr hins
  have H9 := own_held (hcalls.1 ("com/example/plumb_xml/plumbxml/XmlCharsDigitValuePinLaw", 9) (by simp [consts_1])) (hw _ (List.mem_of_getElem? (i := 8) rfl)) (by decide) hcw harr hins
  obtain ⟨n, o, h1, h2, h3, _, L, rfl, ⟨rfl, N⟩, hq⟩ := rm0 l s _ hw tables_1 i0 i1 i2 vF cs s.heap s.heap.size (Nat.le_refl _) rfl SF hF SC hcs H7 H9 p e ha hc hk s m _ below hf ((Spec.applies_iff_loose hf).mp happ).1 ⟨rfl, rfl⟩ trivial
  refine ⟨n, _, h1, h2, h3, hpost _ _ _ _ _ _ ⟨Cond.after_iff.mpr rfl, Cond.after_iff.mpr (eq_i res_at (Term.int_eval (1)) rfl), trivial⟩ ⟨hq.1, hq.2.1, hq.2.2.1, (hq.2.2.2.sift fun y hy => Or.inr (N y hy)).mono (by decide) (by decide)⟩⟩
theorem main_1_1 : Claimed_1_1 := comes_1 fun _ _ _ _ _ _ h hF => ⟨h.1, hF⟩
theorem main_1_2 : Claimed_1_2 := comes_1 fun _ _ _ _ _ _ h hF => ⟨h.2.1, hF⟩
end Jvm.Pilot.@@N@@
namespace Jvm.Pilot.@@N@@
open Jvm Jvm.ClassFile Sem Op Lib Jvm.Free Jvm.Stand Jvm.Pilot.@@N@@.Jvm.D
/-! MADE BY PROGRAM (witnessworld.py) out of the Statement's table words and the real class files: 17 classes; the members and pool entries that the words name. The judged class is class 1, her method 1. -/
namespace start1
open Jvm.ClassFile
def u (s : String) : CpInfo := .utf8 (stringToUtf16 s)
/-- a pool by its gaps: so many unusable entries, then the entry; so many at the end -/
def gap : Nat → List CpInfo → List CpInfo
  | 0, r => r
  | n + 1, r => .unusable :: gap n r
def poolList (es : List (Nat × CpInfo)) (last : Nat) : List CpInfo := es.foldr (fun e r => gap e.1 (e.2 :: r)) (gap last [])
def pool (es : List (Nat × CpInfo)) (last : Nat) : Array CpInfo := ⟨poolList es last⟩
def fileOf (pool : Array CpInfo) (this : Nat) (attrs : Array Attribute := #[]) (ms : Array MethodInfo := #[]) (fl : Nat := 33) (sup : Nat := 0) (ifs : Array Nat := #[]) (fds : Array FieldInfo := #[]) : ClassFile where
  minorVersion := 0
  majorVersion := 65
  constantPool := pool
  accessFlags := fl
  thisClass := this
  superClass := sup
  interfaces := ifs
  fields := fds
  methods := ms
  attributes := attrs
def plain (name : String) (sup : Option ClassId) : Class where
  name := name
  kind := .ordinary
  loader := none
  accessFlags := 33
  super := sup
  interfaces := #[]
  cf := none
  fields := #[]
  methods := #[]
  instanceTypes := #[]
  staticTypes := #[]
  resolved := #[]
  callSites := []
  init := .initialized
  statics := none
  mirror := none

def pool0 : Array CpInfo := pool [(5, u "<init>"), (0, u "()V"), (1, .class_ 10), (1, u "java/lang/Object")] 113

def k0m0 : Method := { name := "<init>", desc := "()V", sig := { parameters := [], returnType := none }, accessFlags := 1, code := none }
/-- java/lang/Object -/
def k0 : Class := { plain "java/lang/Object" none with
  accessFlags := 33
  interfaces := #[]
  cf := some (fileOf pool0 8 #[] #[{ accessFlags := 1, nameIndex := 5, descriptorIndex := 6, attributes := #[] }] 33 0 #[] #[])
  fields := #[]
  methods := #[k0m0]
  instanceTypes := #[]
  staticTypes := #[]
  resolved := Array.replicate 124 none
  statics := none }

def pool1 : Array CpInfo := pool [(2, .class_ 4), (1, u "java/lang/Object"), (0, u "<init>"), (0, u "()V"), (0, .string 8), (0, u "0123456789abcdef"), (0, .string 10), (0, u "0123456789ABCDEF"), (0, .integer 2147483647), (0, .methodref 13 14), (0, .class_ 15), (0, .nameAndType 16 17), (0, u "java/lang/String"), (0, u "charAt"), (0, u "(I)C"), (0, .methodref 19 20), (0, .class_ 21), (0, .nameAndType 22 23), (0, u "com/example/plumb_xml/plumbxml/XmlChars"), (0, u "digitValue"), (0, u "(II)I"), (0, .class_ 25), (0, u "com/example/plumb_xml/plumbxml/XmlCharsDigitValuePinLaw"), (2, u "law"), (0, u "(III)Z")] 3

def k1m0 : Method := { name := "<init>", desc := "()V", sig := { parameters := [], returnType := none }, accessFlags := 2, code := none }
def k1c1 : Code := { maxStack := 2, maxLocals := 10, code := code, exceptionTable := #[], attributes := #[] }
def k1m1 : Method := { name := "law", desc := "(III)Z", sig := { parameters := [.int, .int, .int], returnType := some .boolean }, accessFlags := 9, code := some k1c1 }
/-- com/example/plumb_xml/plumbxml/XmlCharsDigitValuePinLaw -/
def k1 : Class := { plain "com/example/plumb_xml/plumbxml/XmlCharsDigitValuePinLaw" (some 0) with
  accessFlags := 49
  interfaces := #[]
  cf := some (fileOf pool1 24 #[] #[{ accessFlags := 2, nameIndex := 5, descriptorIndex := 6, attributes := #[] }, { accessFlags := 9, nameIndex := 28, descriptorIndex := 29, attributes := #[] }] 49 2 #[] #[])
  fields := #[]
  methods := #[k1m0, k1m1]
  instanceTypes := #[]
  staticTypes := #[]
  resolved := Array.replicate 33 none
  statics := none }

def pool2 : Array CpInfo := pool [(1, .class_ 2), (0, u "java/io/Serializable"), (0, .class_ 4), (0, u "java/lang/Object")] 2

/-- java/io/Serializable -/
def k2 : Class := { plain "java/io/Serializable" (some 0) with
  accessFlags := 1537
  interfaces := #[]
  cf := some (fileOf pool2 1 #[] #[] 1537 3 #[] #[])
  fields := #[]
  methods := #[]
  instanceTypes := #[]
  staticTypes := #[]
  resolved := Array.replicate 7 none
  statics := none }

def pool3 : Array CpInfo := pool [(1, .class_ 2), (0, u "java/lang/Comparable"), (0, .class_ 4), (0, u "java/lang/Object")] 7

/-- java/lang/Comparable -/
def k3 : Class := { plain "java/lang/Comparable" (some 0) with
  accessFlags := 1537
  interfaces := #[]
  cf := some (fileOf pool3 1 #[] #[] 1537 3 #[] #[])
  fields := #[]
  methods := #[]
  instanceTypes := #[]
  staticTypes := #[]
  resolved := Array.replicate 12 none
  statics := none }

def pool4 : Array CpInfo := pool [(2, .class_ 4), (1, u "java/lang/CharSequence"), (42, .class_ 48), (0, u "java/lang/CharSequence$1CodePointIterator"), (10, .class_ 60), (0, u "java/lang/CharSequence$1CharIterator"), (5, .class_ 67), (0, u "java/lang/Object")] 63

/-- java/lang/CharSequence -/
def k4 : Class := { plain "java/lang/CharSequence" (some 0) with
  accessFlags := 1537
  interfaces := #[]
  cf := some (fileOf pool4 2 #[.nestMembers #[47, 59]] #[] 1537 66 #[] #[])
  fields := #[]
  methods := #[]
  instanceTypes := #[]
  staticTypes := #[]
  resolved := Array.replicate 131 none
  statics := none }

def pool5 : Array CpInfo := pool [(1, .class_ 2), (0, u "java/lang/constant/Constable"), (0, .class_ 4), (0, u "java/lang/Object")] 6

/-- java/lang/constant/Constable -/
def k5 : Class := { plain "java/lang/constant/Constable" (some 0) with
  accessFlags := 1537
  interfaces := #[]
  cf := some (fileOf pool5 1 #[] #[] 1537 3 #[] #[])
  fields := #[]
  methods := #[]
  instanceTypes := #[]
  staticTypes := #[]
  resolved := Array.replicate 11 none
  statics := none }

def pool6 : Array CpInfo := pool [(1, .class_ 2), (0, u "java/lang/constant/ConstantDesc"), (0, .class_ 4), (0, u "java/lang/Object")] 32

/-- java/lang/constant/ConstantDesc -/
def k6 : Class := { plain "java/lang/constant/ConstantDesc" (some 0) with
  accessFlags := 1537
  interfaces := #[]
  cf := some (fileOf pool6 1 #[] #[] 1537 3 #[] #[])
  fields := #[]
  methods := #[]
  instanceTypes := #[]
  staticTypes := #[]
  resolved := Array.replicate 37 none
  statics := none }

def pool7 : Array CpInfo := pool [(2, .class_ 4), (1, u "java/lang/Object"), (0, u "<init>"), (0, u "()V"), (2, .fieldref 10 11), (0, .class_ 12), (0, .nameAndType 13 14), (0, u "java/lang/String"), (0, u "value"), (0, u "[B"), (0, .fieldref 10 16), (0, .nameAndType 17 18), (0, u "coder"), (0, u "B"), (2, u "hash"), (0, u "I"), (2, u "hashIsZero"), (0, u "Z"), (11, .fieldref 10 39), (0, .nameAndType 40 26), (0, u "COMPACT_STRINGS"), (66, .class_ 109), (1, u "java/lang/StringLatin1"), (32, u "()Z"), (220, u "([BI)C"), (27, u "(II)V"), (35, u "(I)C"), (64, .methodref 10 493), (0, .nameAndType 494 142), (0, u "isLatin1"), (0, .methodref 107 496), (0, .nameAndType 497 363), (0, u "charAt"), (3, u "checkIndex"), (73, .class_ 576), (0, u "java/lang/CharSequence"), (22, u "CASE_INSENSITIVE_ORDER"), (0, u "Ljava/util/Comparator;"), (452, .fieldref 1054 1055), (0, .class_ 1056), (0, .nameAndType 1057 1058), (0, u "jdk/internal/util/Preconditions"), (0, u "SIOOBE_FORMATTER"), (0, u "Ljava/util/function/BiFunction;"), (0, .methodref 1054 1060), (0, .nameAndType 501 1061), (0, u "(IILjava/util/function/BiFunction;)I"), (39, u "serialPersistentFields"), (0, u "[Ljava/io/ObjectStreamField;"), (0, .class_ 1104), (0, u "java/lang/String$CaseInsensitiveComparator"), (1, .class_ 1107), (0, u "java/io/Serializable"), (0, .class_ 1109), (0, u "java/lang/Comparable"), (0, .class_ 1111), (0, u "java/lang/constant/Constable"), (0, .class_ 1113), (0, u "java/lang/constant/ConstantDesc"), (2, u "serialVersionUID"), (0, u "J"), (3, u "REPL"), (0, u "C"), (2, u "LATIN1"), (1, u "UTF16")] 323

def k7m0 : Method := { name := "<init>", desc := "()V", sig := { parameters := [], returnType := none }, accessFlags := 1, code := none }
def k7c1 : Code := { maxStack := 2, maxLocals := 2, code := jdk_42_method_56_code, exceptionTable := #[], attributes := #[] }
def k7m1 : Method := { name := "charAt", desc := "(I)C", sig := { parameters := [.int], returnType := some .char }, accessFlags := 1, code := some k7c1 }
def k7c2 : Code := { maxStack := 1, maxLocals := 1, code := jdk_42_method_154_code, exceptionTable := #[], attributes := #[] }
def k7m2 : Method := { name := "isLatin1", desc := "()Z", sig := { parameters := [], returnType := some .boolean }, accessFlags := 0, code := some k7c2 }
def k7c3 : Code := { maxStack := 3, maxLocals := 2, code := jdk_42_method_155_code, exceptionTable := #[], attributes := #[] }
def k7m3 : Method := { name := "checkIndex", desc := "(II)V", sig := { parameters := [.int, .int], returnType := none }, accessFlags := 8, code := some k7c3 }
/-- java/lang/String -/
def k7 : Class := { plain "java/lang/String" (some 0) with
  accessFlags := 49
  interfaces := #[2, 3, 4, 5, 6]
  cf := some (fileOf pool7 10 #[.nestMembers #[1103]] #[{ accessFlags := 1, nameIndex := 5, descriptorIndex := 6, attributes := #[] }, { accessFlags := 1, nameIndex := 497, descriptorIndex := 427, attributes := #[] }, { accessFlags := 0, nameIndex := 494, descriptorIndex := 142, attributes := #[] }, { accessFlags := 8, nameIndex := 501, descriptorIndex := 391, attributes := #[] }] 49 2 #[1106, 1108, 575, 1110, 1112] #[{ accessFlags := 18, nameIndex := 13, descriptorIndex := 14, attributes := #[] }, { accessFlags := 18, nameIndex := 17, descriptorIndex := 18, attributes := #[] }, { accessFlags := 2, nameIndex := 21, descriptorIndex := 22, attributes := #[] }, { accessFlags := 2, nameIndex := 25, descriptorIndex := 26, attributes := #[] }, { accessFlags := 26, nameIndex := 1116, descriptorIndex := 1117, attributes := #[] }, { accessFlags := 24, nameIndex := 40, descriptorIndex := 26, attributes := #[] }, { accessFlags := 26, nameIndex := 1101, descriptorIndex := 1102, attributes := #[] }, { accessFlags := 26, nameIndex := 1121, descriptorIndex := 1122, attributes := #[] }, { accessFlags := 25, nameIndex := 599, descriptorIndex := 600, attributes := #[] }, { accessFlags := 24, nameIndex := 1125, descriptorIndex := 18, attributes := #[] }, { accessFlags := 24, nameIndex := 1127, descriptorIndex := 18, attributes := #[] }])
  fields := #[{ name := "value", type := (.array .byte), accessFlags := 18, slot := 0, constantValue := 0 }, { name := "coder", type := .byte, accessFlags := 18, slot := 1, constantValue := 0 }, { name := "hash", type := .int, accessFlags := 2, slot := 2, constantValue := 0 }, { name := "hashIsZero", type := .boolean, accessFlags := 2, slot := 3, constantValue := 0 }, { name := "serialVersionUID", type := .long, accessFlags := 26, slot := 0, constantValue := 0 }, { name := "COMPACT_STRINGS", type := .boolean, accessFlags := 24, slot := 1, constantValue := 0 }, { name := "serialPersistentFields", type := (.array (.object "java/io/ObjectStreamField")), accessFlags := 26, slot := 2, constantValue := 0 }, { name := "REPL", type := .char, accessFlags := 26, slot := 3, constantValue := 0 }, { name := "CASE_INSENSITIVE_ORDER", type := (.object "java/util/Comparator"), accessFlags := 25, slot := 4, constantValue := 0 }, { name := "LATIN1", type := .byte, accessFlags := 24, slot := 5, constantValue := 0 }, { name := "UTF16", type := .byte, accessFlags := 24, slot := 6, constantValue := 0 }]
  methods := #[k7m0, k7m1, k7m2, k7m3]
  instanceTypes := #[(.array .byte), .byte, .int, .boolean]
  staticTypes := #[.long, .boolean, (.array (.object "java/io/ObjectStreamField")), .char, (.object "java/util/Comparator"), .byte, .byte]
  resolved := Array.replicate 1451 none
  statics := some 0 }

def pool8 : Array CpInfo := pool [(1, .class_ 2), (0, u "java/lang/String"), (1, .class_ 6), (1, u "java/lang/Object"), (0, u "<init>"), (0, u "()V"), (0, .methodref 1 10), (0, .nameAndType 11 12), (0, u "checkIndex"), (0, u "(II)V"), (1, .class_ 16), (1, u "java/lang/StringLatin1"), (36, u "([BI)C"), (67, u "$assertionsDisabled"), (0, u "Z"), (98, .class_ 223), (1, u "java/lang/StringLatin1$LinesSpliterator"), (28, u "charAt"), (137, .class_ 391), (0, u "java/lang/StringLatin1$CharsSpliterator")] 3

def k8m0 : Method := { name := "<init>", desc := "()V", sig := { parameters := [], returnType := none }, accessFlags := 0, code := none }
def k8c1 : Code := { maxStack := 2, maxLocals := 2, code := jdk_43_method_2_code, exceptionTable := #[], attributes := #[] }
def k8m1 : Method := { name := "charAt", desc := "([BI)C", sig := { parameters := [(.array .byte), .int], returnType := some .char }, accessFlags := 9, code := some k8c1 }
/-- java/lang/StringLatin1 -/
def k8 : Class := { plain "java/lang/StringLatin1" (some 0) with
  accessFlags := 48
  interfaces := #[]
  cf := some (fileOf pool8 14 #[.nestMembers #[390, 221]] #[{ accessFlags := 0, nameIndex := 7, descriptorIndex := 8, attributes := #[] }, { accessFlags := 9, nameIndex := 252, descriptorIndex := 53, attributes := #[] }] 48 4 #[] #[{ accessFlags := 4120, nameIndex := 121, descriptorIndex := 122, attributes := #[] }])
  fields := #[{ name := "$assertionsDisabled", type := .boolean, accessFlags := 4120, slot := 0, constantValue := 0 }]
  methods := #[k8m0, k8m1]
  instanceTypes := #[]
  staticTypes := #[.boolean]
  resolved := Array.replicate 395 none
  statics := none }

def pool9 : Array CpInfo := pool [(2, .class_ 4), (1, u "java/lang/Object"), (0, u "<init>"), (0, u "()V"), (17, .class_ 26), (1, u "jdk/internal/util/Preconditions"), (6, u "checkIndex"), (21, .class_ 56), (0, u "jdk/internal/util/Preconditions$4"), (57, .class_ 115), (0, u "jdk/internal/util/Preconditions$1"), (7, u "SIOOBE_FORMATTER"), (0, u "Ljava/util/function/BiFunction;"), (0, .class_ 126), (0, u "jdk/internal/util/Preconditions$2"), (3, u "AIOOBE_FORMATTER"), (0, .class_ 132), (0, u "jdk/internal/util/Preconditions$3"), (3, u "IOOBE_FORMATTER"), (41, u "(IILjava/util/function/BiFunction;)I")] 15

def k9m0 : Method := { name := "<init>", desc := "()V", sig := { parameters := [], returnType := none }, accessFlags := 1, code := none }
def k9c1 : Code := { maxStack := 3, maxLocals := 3, code := jdk_41_method_11_code, exceptionTable := #[], attributes := #[] }
def k9m1 : Method := { name := "checkIndex", desc := "(IILjava/util/function/BiFunction;)I", sig := { parameters := [.int, .int, (.object "java/util/function/BiFunction")], returnType := some .int }, accessFlags := 9, code := some k9c1 }
/-- jdk/internal/util/Preconditions -/
def k9 : Class := { plain "jdk/internal/util/Preconditions" (some 0) with
  accessFlags := 33
  interfaces := #[]
  cf := some (fileOf pool9 24 #[.nestMembers #[55, 131, 125, 114]] #[{ accessFlags := 1, nameIndex := 5, descriptorIndex := 6, attributes := #[] }, { accessFlags := 9, nameIndex := 33, descriptorIndex := 178, attributes := #[] }] 33 2 #[] #[{ accessFlags := 25, nameIndex := 123, descriptorIndex := 124, attributes := #[] }, { accessFlags := 25, nameIndex := 130, descriptorIndex := 124, attributes := #[] }, { accessFlags := 25, nameIndex := 136, descriptorIndex := 124, attributes := #[] }])
  fields := #[{ name := "SIOOBE_FORMATTER", type := (.object "java/util/function/BiFunction"), accessFlags := 25, slot := 0, constantValue := 0 }, { name := "AIOOBE_FORMATTER", type := (.object "java/util/function/BiFunction"), accessFlags := 25, slot := 1, constantValue := 0 }, { name := "IOOBE_FORMATTER", type := (.object "java/util/function/BiFunction"), accessFlags := 25, slot := 2, constantValue := 0 }]
  methods := #[k9m0, k9m1]
  instanceTypes := #[]
  staticTypes := #[(.object "java/util/function/BiFunction"), (.object "java/util/function/BiFunction"), (.object "java/util/function/BiFunction")]
  resolved := Array.replicate 194 none
  statics := some 1 }

def pool10 : Array CpInfo := pool [(2, .class_ 4), (1, u "java/lang/Object"), (0, u "<init>"), (0, u "()V"), (6, .class_ 15), (1, u "com/example/plumb_xml/plumbxml/XmlChars"), (0, u "ASCII_NAME_START"), (0, u "[Z"), (6, u "ASCII_NAME"), (14, u "PREDEFINED_ENTITIES"), (0, u "[Ljava/lang/String;"), (12, u "PREDEFINED_ENTITY_BYTES"), (0, u "[[B"), (24, u "(II)I"), (51, u "PREDEFINED_CHARACTERS"), (0, u "Ljava/lang/String;"), (6, u "digitValue")] 11

def k10m0 : Method := { name := "<init>", desc := "()V", sig := { parameters := [], returnType := none }, accessFlags := 2, code := none }
def k10c1 : Code := { maxStack := 2, maxLocals := 2, code := prog_99_method_7_code, exceptionTable := #[], attributes := #[] }
def k10m1 : Method := { name := "digitValue", desc := "(II)I", sig := { parameters := [.int, .int], returnType := some .int }, accessFlags := 8, code := some k10c1 }
/-- com/example/plumb_xml/plumbxml/XmlChars -/
def k10 : Class := { plain "com/example/plumb_xml/plumbxml/XmlChars" (some 0) with
  accessFlags := 32
  interfaces := #[]
  cf := some (fileOf pool10 13 #[] #[{ accessFlags := 2, nameIndex := 5, descriptorIndex := 6, attributes := #[] }, { accessFlags := 8, nameIndex := 139, descriptorIndex := 79, attributes := #[] }] 32 2 #[] #[{ accessFlags := 26, nameIndex := 16, descriptorIndex := 17, attributes := #[] }, { accessFlags := 26, nameIndex := 24, descriptorIndex := 17, attributes := #[] }, { accessFlags := 26, nameIndex := 39, descriptorIndex := 40, attributes := #[] }, { accessFlags := 26, nameIndex := 131, descriptorIndex := 132, attributes := #[] }, { accessFlags := 26, nameIndex := 53, descriptorIndex := 54, attributes := #[] }])
  fields := #[{ name := "ASCII_NAME_START", type := (.array .boolean), accessFlags := 26, slot := 0, constantValue := 0 }, { name := "ASCII_NAME", type := (.array .boolean), accessFlags := 26, slot := 1, constantValue := 0 }, { name := "PREDEFINED_ENTITIES", type := (.array (.object "java/lang/String")), accessFlags := 26, slot := 2, constantValue := 0 }, { name := "PREDEFINED_CHARACTERS", type := (.object "java/lang/String"), accessFlags := 26, slot := 3, constantValue := 0 }, { name := "PREDEFINED_ENTITY_BYTES", type := (.array (.array .byte)), accessFlags := 26, slot := 4, constantValue := 0 }]
  methods := #[k10m0, k10m1]
  instanceTypes := #[]
  staticTypes := #[(.array .boolean), (.array .boolean), (.array (.object "java/lang/String")), (.object "java/lang/String"), (.array (.array .byte))]
  resolved := Array.replicate 151 none
  statics := none }

def pool11 : Array CpInfo := pool [(9, u "<init>"), (6, .class_ 18), (1, u "java/lang/Object"), (0, u "()V"), (1, .class_ 23), (1, u "jdk/internal/util/ArraysSupport"), (0, u "LOG2_ARRAY_LONG_INDEX_SCALE"), (0, u "I"), (2, u "U"), (0, u "Ljdk/internal/misc/Unsafe;"), (8, u "BIG_ENDIAN"), (0, u "Z"), (8, u "LOG2_BYTE_BIT_SIZE"), (4, u "LOG2_ARRAY_INT_INDEX_SCALE"), (54, u "JLA"), (0, u "Ljdk/internal/access/JavaLangAccess;"), (11, u "LOG2_ARRAY_BOOLEAN_INDEX_SCALE"), (9, u "LOG2_ARRAY_BYTE_INDEX_SCALE"), (5, u "LOG2_ARRAY_CHAR_INDEX_SCALE"), (5, u "LOG2_ARRAY_SHORT_INDEX_SCALE"), (18, u "LOG2_ARRAY_FLOAT_INDEX_SCALE"), (24, u "LOG2_ARRAY_DOUBLE_INDEX_SCALE"), (89, u "T_BOOLEAN"), (2, u "T_CHAR"), (1, u "T_FLOAT"), (1, u "T_DOUBLE"), (1, u "T_BYTE"), (1, u "T_SHORT"), (1, u "T_INT"), (1, u "T_LONG"), (1, u "SOFT_MAX_ARRAY_LENGTH")] 83

def k11m0 : Method := { name := "<init>", desc := "()V", sig := { parameters := [], returnType := none }, accessFlags := 2, code := none }
/-- jdk/internal/util/ArraysSupport -/
def k11 : Class := { plain "jdk/internal/util/ArraysSupport" (some 0) with
  accessFlags := 33
  interfaces := #[]
  cf := some (fileOf pool11 21 #[] #[{ accessFlags := 2, nameIndex := 9, descriptorIndex := 19, attributes := #[] }] 33 16 #[] #[{ accessFlags := 24, nameIndex := 28, descriptorIndex := 29, attributes := #[] }, { accessFlags := 26, nameIndex := 38, descriptorIndex := 39, attributes := #[] }, { accessFlags := 25, nameIndex := 121, descriptorIndex := 25, attributes := #[] }, { accessFlags := 25, nameIndex := 131, descriptorIndex := 25, attributes := #[] }, { accessFlags := 25, nameIndex := 137, descriptorIndex := 25, attributes := #[] }, { accessFlags := 25, nameIndex := 143, descriptorIndex := 25, attributes := #[] }, { accessFlags := 25, nameIndex := 53, descriptorIndex := 25, attributes := #[] }, { accessFlags := 25, nameIndex := 24, descriptorIndex := 25, attributes := #[] }, { accessFlags := 25, nameIndex := 162, descriptorIndex := 25, attributes := #[] }, { accessFlags := 25, nameIndex := 187, descriptorIndex := 25, attributes := #[] }, { accessFlags := 26, nameIndex := 48, descriptorIndex := 25, attributes := #[] }, { accessFlags := 25, nameIndex := 277, descriptorIndex := 25, attributes := #[] }, { accessFlags := 25, nameIndex := 280, descriptorIndex := 25, attributes := #[] }, { accessFlags := 25, nameIndex := 282, descriptorIndex := 25, attributes := #[] }, { accessFlags := 25, nameIndex := 284, descriptorIndex := 25, attributes := #[] }, { accessFlags := 25, nameIndex := 286, descriptorIndex := 25, attributes := #[] }, { accessFlags := 25, nameIndex := 288, descriptorIndex := 25, attributes := #[] }, { accessFlags := 25, nameIndex := 290, descriptorIndex := 25, attributes := #[] }, { accessFlags := 25, nameIndex := 292, descriptorIndex := 25, attributes := #[] }, { accessFlags := 26, nameIndex := 108, descriptorIndex := 109, attributes := #[] }, { accessFlags := 25, nameIndex := 294, descriptorIndex := 25, attributes := #[] }])
  fields := #[{ name := "U", type := (.object "jdk/internal/misc/Unsafe"), accessFlags := 24, slot := 0, constantValue := 0 }, { name := "BIG_ENDIAN", type := .boolean, accessFlags := 26, slot := 1, constantValue := 0 }, { name := "LOG2_ARRAY_BOOLEAN_INDEX_SCALE", type := .int, accessFlags := 25, slot := 2, constantValue := 0 }, { name := "LOG2_ARRAY_BYTE_INDEX_SCALE", type := .int, accessFlags := 25, slot := 3, constantValue := 0 }, { name := "LOG2_ARRAY_CHAR_INDEX_SCALE", type := .int, accessFlags := 25, slot := 4, constantValue := 0 }, { name := "LOG2_ARRAY_SHORT_INDEX_SCALE", type := .int, accessFlags := 25, slot := 5, constantValue := 0 }, { name := "LOG2_ARRAY_INT_INDEX_SCALE", type := .int, accessFlags := 25, slot := 6, constantValue := 0 }, { name := "LOG2_ARRAY_LONG_INDEX_SCALE", type := .int, accessFlags := 25, slot := 7, constantValue := 0 }, { name := "LOG2_ARRAY_FLOAT_INDEX_SCALE", type := .int, accessFlags := 25, slot := 8, constantValue := 0 }, { name := "LOG2_ARRAY_DOUBLE_INDEX_SCALE", type := .int, accessFlags := 25, slot := 9, constantValue := 0 }, { name := "LOG2_BYTE_BIT_SIZE", type := .int, accessFlags := 26, slot := 10, constantValue := 0 }, { name := "T_BOOLEAN", type := .int, accessFlags := 25, slot := 11, constantValue := 0 }, { name := "T_CHAR", type := .int, accessFlags := 25, slot := 12, constantValue := 0 }, { name := "T_FLOAT", type := .int, accessFlags := 25, slot := 13, constantValue := 0 }, { name := "T_DOUBLE", type := .int, accessFlags := 25, slot := 14, constantValue := 0 }, { name := "T_BYTE", type := .int, accessFlags := 25, slot := 15, constantValue := 0 }, { name := "T_SHORT", type := .int, accessFlags := 25, slot := 16, constantValue := 0 }, { name := "T_INT", type := .int, accessFlags := 25, slot := 17, constantValue := 0 }, { name := "T_LONG", type := .int, accessFlags := 25, slot := 18, constantValue := 0 }, { name := "JLA", type := (.object "jdk/internal/access/JavaLangAccess"), accessFlags := 26, slot := 19, constantValue := 0 }, { name := "SOFT_MAX_ARRAY_LENGTH", type := .int, accessFlags := 25, slot := 20, constantValue := 0 }]
  methods := #[k11m0]
  instanceTypes := #[]
  staticTypes := #[(.object "jdk/internal/misc/Unsafe"), .boolean, .int, .int, .int, .int, .int, .int, .int, .int, .int, .int, .int, .int, .int, .int, .int, .int, .int, (.object "jdk/internal/access/JavaLangAccess"), .int]
  resolved := Array.replicate 378 none
  statics := none }

def pool12 : Array CpInfo := pool [(1, u "java/lang/Cloneable"), (0, .class_ 1), (0, u "java/lang/Object"), (0, .class_ 3)] 3

/-- java/lang/Cloneable -/
def k12 : Class := { plain "java/lang/Cloneable" (some 0) with
  accessFlags := 1537
  interfaces := #[]
  cf := some (fileOf pool12 2 #[] #[] 1537 4 #[] #[])
  fields := #[]
  methods := #[]
  instanceTypes := #[]
  staticTypes := #[]
  resolved := Array.replicate 8 none
  statics := none }

/-- the primitive byte -/
def k13 : Class := { plain "byte" none with kind := .primitive 'B', accessFlags := 0x411 }
/-- [B -/
def k14 : Class := { plain "[B" (some 0) with kind := .array 13 .byte, interfaces := #[12, 2], accessFlags := 1041 }

/-- the primitive int -/
def k15 : Class := { plain "int" none with kind := .primitive 'I', accessFlags := 0x411 }
/-- [I -/
def k16 : Class := { plain "[I" (some 0) with kind := .array 15 .int, interfaces := #[12, 2], accessFlags := 1041 }

def heap : Heap := #[{ cls := 7, slots := #[.long 0, .int 1, .null, .int 0, .null, .int 0, .int 0], vm := .statics 7 },
  { cls := 9, slots := #[.null, .null, .null], vm := .statics 9 }]
def classes : Array Class := #[k0, k1, k2, k3, k4, k5, k6, k7, k8, k9, k10, k11, k12, k13, k14, k15, k16]
def interned : List (Array UInt16 × Addr) := []
def slotsUsed : Nat := 10
def theMethod : MethodId := ⟨1, 1⟩
def args0 : Array Value := #[.int 97, .int 1, .int 11]
def aboutOver (below : List Frame) : State where
  vm := { classes := classes, interned := interned.toArray }
  heap := heap
  slotsUsed := slotsUsed
  threads := #[{ frames := .invoking theMethod args0 :: below }]
def below0 : List Frame := [.native { method := ⟨0, 0⟩, args := #[] }]
def about1 : State := aboutOver below0
def p0 : Program := .bare "" "" ""
def e0 : Env := launch0.env 0 0 0
theorem w_frames : about1.frames = Frame.invoking theMethod args0 :: below0 := rfl
set_option maxRecDepth 65536 in
theorem w_args : argsFit about1.vm theMethod args0 = true := by decide +kernel
set_option maxRecDepth 65536 in
theorem w_heap : heapFits about1 = true := by decide +kernel
set_option maxRecDepth 65536 in
theorem w_runnable : about1.curStatus? = some .runnable := by decide +kernel
set_option maxRecDepth 65536 in
theorem w_alone : about1.alone = true := by decide +kernel
set_option maxRecDepth 65536 in
theorem w_named : about1.methodNamed? x = some theMethod := by decide +kernel
set_option maxRecDepth 65536 in
theorem w_hears : about1.hears theMethod below0 = true := by decide +kernel
set_option maxRecDepth 65536 in
theorem w_ripe : about1.ripe theMethod args0 below0 = true := by decide +kernel
theorem w_running : about1.status = .running := rfl
set_option maxRecDepth 65536 in
theorem w_room : about1.hasRoom e0.platform room_1 = true :=
  launch0.hasRoom_least _ room_1 (by decide +kernel) (by decide +kernel) (by decide +kernel) (by decide +kernel) (by decide +kernel) (by decide +kernel)
theorem allAtoms_all (ts : List Jvm.Cond) (a : Array Jvm.Value) (st : Jvm.State) : (allAtoms ts).before a st = ts.all (fun c => c.before a st) := by
  induction ts with
  | nil => rfl
  | cons c t ih =>
    show (Jvm.Cond.and c (allAtoms t)).before a st = _
    rw [Jvm.Cond.before_and, ih, List.all_cons]
def words1 : List Jvm.Cond := Jvm.Cond.code x code maxLocals ret :: tables_1
/-- a 'code' word, met by the world's own term for the bytes: nothing is compared byte by byte -/
theorem code_word {y : MethodName} {bytes : ByteArray} {mx : Nat} {rt : Option FieldType} {a : Array Value} {s : State} {m : MethodId} {meth : Method} {c : Code} (h1 : s.methodNamed? y = some m) (h2 : s.vm.method? m = some meth) (h3 : meth.code = some c) (h4 : c.code = bytes)
    (h5 : (c.maxLocals == mx && c.exceptionTable.isEmpty && decide (c.maxStack ≤ mostOperands) && decide (meth.sig.returnType = rt) && !meth.locks && decide (parseMethodDescriptor y.desc = some meth.sig)) = true) : (Jvm.Cond.code y bytes mx rt).before a s = true := by
  simp only [Bool.and_eq_true, beq_iff_eq, Bool.not_eq_true', decide_eq_true_eq] at h5
  obtain ⟨⟨⟨⟨⟨g1, g2⟩, g3⟩, g4⟩, g5⟩, g6⟩ := h5
  simp [Cond.before, Cond.holds, Cond.value, h1, h2, h3, h4, g1, g2, g3, g4, g5, g6]
def isCode : Jvm.Cond → Bool
  | .code _ _ _ _ => true
  | _ => false
theorem all_split {L : List Jvm.Cond} {P : Jvm.Cond → Bool} (h1 : L.all (fun c => isCode c || P c) = true) (h2 : ∀ c ∈ L.filter isCode, P c = true) : L.all P = true := by
  refine List.all_eq_true.mpr fun c hc => ?_
  have h := List.all_eq_true.mp h1 c hc
  rcases Bool.eq_false_or_eq_true (isCode c) with hi | hi
  · exact h2 c (List.mem_filter.mpr ⟨hc, hi⟩)
  · simpa [hi] using h
set_option maxRecDepth 65536 in
theorem w_c0 : (Jvm.Cond.code x code maxLocals ret).before args0 about1 = true := code_word (m := ⟨1, 1⟩) (meth := k1m1) (c := k1c1) (by decide +kernel) rfl rfl rfl (by decide +kernel)
set_option maxRecDepth 65536 in
theorem w_c1 : (Jvm.Cond.code ({ cls := "java/lang/String", name := "charAt", desc := "(I)C" } : Jvm.MethodName) jdk_42_method_56_code (2 : Nat) (Option.some Jvm.ClassFile.FieldType.char)).before args0 about1 = true := code_word (m := ⟨7, 1⟩) (meth := k7m1) (c := k7c1) (by decide +kernel) rfl rfl rfl (by decide +kernel)
set_option maxRecDepth 65536 in
theorem w_c2 : (Jvm.Cond.code ({ cls := "java/lang/String", name := "isLatin1", desc := "()Z" } : Jvm.MethodName) jdk_42_method_154_code (1 : Nat) (Option.some Jvm.ClassFile.FieldType.boolean)).before args0 about1 = true := code_word (m := ⟨7, 2⟩) (meth := k7m2) (c := k7c2) (by decide +kernel) rfl rfl rfl (by decide +kernel)
set_option maxRecDepth 65536 in
theorem w_c3 : (Jvm.Cond.code ({ cls := "java/lang/StringLatin1", name := "charAt", desc := "([BI)C" } : Jvm.MethodName) jdk_43_method_2_code (2 : Nat) (Option.some Jvm.ClassFile.FieldType.char)).before args0 about1 = true := code_word (m := ⟨8, 1⟩) (meth := k8m1) (c := k8c1) (by decide +kernel) rfl rfl rfl (by decide +kernel)
set_option maxRecDepth 65536 in
theorem w_c4 : (Jvm.Cond.code ({ cls := "java/lang/String", name := "checkIndex", desc := "(II)V" } : Jvm.MethodName) jdk_42_method_155_code (2 : Nat) (Option.none : Option Jvm.ClassFile.FieldType)).before args0 about1 = true := code_word (m := ⟨7, 3⟩) (meth := k7m3) (c := k7c3) (by decide +kernel) rfl rfl rfl (by decide +kernel)
set_option maxRecDepth 65536 in
theorem w_c5 : (Jvm.Cond.code ({ cls := "jdk/internal/util/Preconditions", name := "checkIndex", desc := "(IILjava/util/function/BiFunction;)I" } : Jvm.MethodName) jdk_41_method_11_code (3 : Nat) (Option.some Jvm.ClassFile.FieldType.int)).before args0 about1 = true := code_word (m := ⟨9, 1⟩) (meth := k9m1) (c := k9c1) (by decide +kernel) rfl rfl rfl (by decide +kernel)
set_option maxRecDepth 65536 in
theorem w_c6 : (Jvm.Cond.code ({ cls := "com/example/plumb_xml/plumbxml/XmlChars", name := "digitValue", desc := "(II)I" } : Jvm.MethodName) prog_99_method_7_code (2 : Nat) (Option.some Jvm.ClassFile.FieldType.int)).before args0 about1 = true := code_word (m := ⟨10, 1⟩) (meth := k10m1) (c := k10c1) (by decide +kernel) rfl rfl rfl (by decide +kernel)
def codes1 : List Jvm.Cond := [Jvm.Cond.code x code maxLocals ret, Jvm.Cond.code ({ cls := "java/lang/String", name := "charAt", desc := "(I)C" } : Jvm.MethodName) jdk_42_method_56_code (2 : Nat) (Option.some Jvm.ClassFile.FieldType.char), Jvm.Cond.code ({ cls := "java/lang/String", name := "isLatin1", desc := "()Z" } : Jvm.MethodName) jdk_42_method_154_code (1 : Nat) (Option.some Jvm.ClassFile.FieldType.boolean), Jvm.Cond.code ({ cls := "java/lang/StringLatin1", name := "charAt", desc := "([BI)C" } : Jvm.MethodName) jdk_43_method_2_code (2 : Nat) (Option.some Jvm.ClassFile.FieldType.char), Jvm.Cond.code ({ cls := "java/lang/String", name := "checkIndex", desc := "(II)V" } : Jvm.MethodName) jdk_42_method_155_code (2 : Nat) (Option.none : Option Jvm.ClassFile.FieldType), Jvm.Cond.code ({ cls := "jdk/internal/util/Preconditions", name := "checkIndex", desc := "(IILjava/util/function/BiFunction;)I" } : Jvm.MethodName) jdk_41_method_11_code (3 : Nat) (Option.some Jvm.ClassFile.FieldType.int), Jvm.Cond.code ({ cls := "com/example/plumb_xml/plumbxml/XmlChars", name := "digitValue", desc := "(II)I" } : Jvm.MethodName) prog_99_method_7_code (2 : Nat) (Option.some Jvm.ClassFile.FieldType.int)]
set_option maxRecDepth 65536 in
theorem codes_eq : words1.filter isCode = codes1 := rfl
theorem w_codes : ∀ c ∈ words1.filter isCode, c.before args0 about1 = true := by
  rw [codes_eq]
  intro c hc
  simp only [codes1, List.mem_cons, List.not_mem_nil, or_false] at hc
  rcases hc with rfl | rfl | rfl | rfl | rfl | rfl | rfl
  · exact w_c0
  · exact w_c1
  · exact w_c2
  · exact w_c3
  · exact w_c4
  · exact w_c5
  · exact w_c6
set_option maxRecDepth 65536 in
theorem w_t1 : (words1.take 24).all (fun c => isCode c || c.before args0 about1) = true := by decide +kernel
set_option maxRecDepth 65536 in
theorem w_t2 : (words1.drop 24).all (fun c => isCode c || c.before args0 about1) = true := by decide +kernel
theorem w_tables : (allAtoms (Jvm.Cond.code x code maxLocals ret :: tables_1)).before args0 about1 = true := by
  rw [allAtoms_all]
  show words1.all (fun c => c.before args0 about1) = true
  refine all_split ?_ w_codes
  rw [← List.take_append_drop 24 words1, List.all_append, w_t1, w_t2]
  rfl
set_option maxRecDepth 65536 in
theorem w_rest : rest_1_c.before args0 about1 = true := by decide +kernel
set_option maxRecDepth 65536 in
theorem w_case : (Jvm.Cond.and given_1 narrow_1).before args0 about1 = true := by decide +kernel
set_option maxRecDepth 65536 in
theorem w_consts : constsHeld consts_1 about1 := Jvm.Lit.constsHeldB_iff.mp (by decide +kernel)
theorem w_applies : (headSpec (Jvm.Cond.code x code maxLocals ret :: tables_1) room_1).applies x e0.platform about1 = true :=
  (Spec.applies_iff w_frames).mpr ⟨w_running, w_runnable, w_alone, w_named, w_hears, w_ripe, w_room, w_tables⟩
theorem atStart : AtStart classFile x code maxLocals ret World_1 tables_1 room_1 Calls_1 rest_1 Pre_1 launch0 p0 e0 about1 theMethod args0 below0 :=
  ⟨lists_1, trivial, launch0.admits_env _ _ _, launch0.least_env, fairChoices_fair.cas, fairChoices_fair.clock, w_frames, w_args, w_heap, w_applies, ⟨w_consts, trivial⟩, w_rest, w_case⟩
end start1
theorem witness_1 : WitnessClaimed_1 := ⟨start1.p0, start1.e0, start1.about1, start1.theMethod, start1.args0, start1.below0, start1.atStart⟩
end Jvm.Pilot.@@N@@
