import JvmDerived
import JvmDerived.Pilot.@@N@@Statement
import JvmDerived.Pilot.@@N@@Code
set_option linter.unusedVariables false
set_option linter.unusedSimpArgs false
@@BLOCK:NumsL.lean.txt@@
namespace Jvm.RoadKit
open Sem ClassFile Op Lib Jvm.Stand Jvm.Free Jvm.LawKit
section New
variable {p : Program} {l : Launch} {e : Env} {R : Room} {s : State} {m : MethodId} {args : Array Value} {below : List Frame} {meth : Method} {c : Code} {T : State} {locs : List Loc} {cells slots : Nat}
theorem retI (X : Stand p l e R s m args below meth c T locs cells slots) (hx : p.tables.exec = Jvm.exec) {pc : Nat} {Ls : Array Slot} {z : Int32} {rest : List Value} (hret : meth.sig.returnType = some .int) (hd : decode c.code pc = .ok (.ireturn, 1)) {fs : List Frame}
    (hl : ∀ (f : JFrame) (acts : List Action), f.method = m → f.locked = none → f.entered = [] → (doReturn e (T.setTop f) acts (some (.int z))).1 = T.setFrames fs) : Steps p.tables e below (T.setTop (mkF m pc Ls (.int z :: rest))) (T.setFrames fs) := by
  have hm' : T.vm.method? m = some meth := X.method'
  have hn : narrow .int (.int z) = .int z := rfl
  show Steps p.tables e below (T.setTop { method := m, pc := pc, locals := Ls, stack := _ :: rest, locked := none }) _
  jvm_step X.here [X.here.top, hx, hd, hm', hret, hn]
  first | (intro acts; rw [hl _ acts rfl rfl rfl]) | rw [hl _ _ rfl rfl rfl]
  exact Steps.refl _
end New
end Jvm.RoadKit
namespace Jvm.Pilot.@@N@@
section OwnFl
open Jvm Jvm.FP.Core
theorem own_sub_pow {X Y m k a b : Nat} (h : m + b = k + a) : X * 2 ^ a ≤ Y * 2 ^ b ↔ X * 2 ^ m ≤ Y * 2 ^ k := by
  have e1 : X * 2 ^ a * 2 ^ k = X * 2 ^ m * 2 ^ b := by rw [Nat.mul_assoc, Nat.mul_assoc, ← Nat.pow_add, ← Nat.pow_add, show a + k = m + b by omega]
  have e2 : Y * 2 ^ b * 2 ^ k = Y * 2 ^ k * 2 ^ b := by rw [Nat.mul_assoc, Nat.mul_assoc, Nat.mul_comm (2 ^ b)]
  constructor
  · intro q
    have := Nat.mul_le_mul_right (2 ^ k) q
    rw [e1, e2] at this
    exact Nat.le_of_mul_le_mul_right this (Nat.two_pow_pos b)
  · intro q
    have := Nat.mul_le_mul_right (2 ^ b) q
    rw [← e1, ← e2] at this
    exact Nat.le_of_mul_le_mul_right this (Nat.two_pow_pos k)
/-- the units of a quotient, as a product's -/
theorem own_units {c d v : Nat} {q r : Int} (hq : b64.qmin ≤ q) (hr : b64.qmin ≤ r) :
    (inUnits c q b64.qmin * one64 ≤ v * inUnits d r b64.qmin ↔ inUnits c (q - r) (min b64.qmin (q - r)) ≤ v * 2 ^ (b64.qmin - min b64.qmin (q - r)).toNat * d) ∧
    (v * inUnits d r b64.qmin ≤ inUnits c q b64.qmin * one64 ↔ v * 2 ^ (b64.qmin - min b64.qmin (q - r)).toNat * d ≤ inUnits c (q - r) (min b64.qmin (q - r))) := by
  rw [qmin_b64] at *
  unfold inUnits one64
  have e1 : v * 2 ^ (-1074 - min (-1074) (q - r)).toNat * d = v * d * 2 ^ (-1074 - min (-1074) (q - r)).toNat := by ac_rfl
  have e2 : v * (d * 2 ^ (r - -1074).toNat) = v * d * 2 ^ (r - -1074).toNat := by ac_rfl
  have e3 : c * 2 ^ (q - -1074).toNat * 2 ^ 1074 = c * 2 ^ ((q - -1074).toNat + 1074) := by rw [Nat.pow_add, Nat.mul_assoc]
  rw [e1, e2, e3]
  exact ⟨(own_sub_pow (by omega)).symm, (own_sub_pow (by omega)).symm⟩
theorem own_quot_le {s1 s2 : Bool} {c1 c2 : Nat} {q1 q2 : Int} {V : Datum} (h1 : Jvm.FP.Core.fits b64 (Datum.fin s1 c1 q1)) (h2 : Jvm.FP.Core.fits b64 (Datum.fin s2 c2 q2)) (hz : c2 ≠ 0) (hV : Jvm.FP.Core.fits b64 V) (hn : V ≠ .nan)
    (h : zmag b64 (.fin s1 c1 q1) * one64 ≤ zmag b64 V * zmag b64 (.fin s2 c2 q2)) : zmag b64 (quotient b64 (.fin s1 c1 q1) (.fin s2 c2 q2)) ≤ zmag b64 V := by
  simp only [quotient]
  rw [if_neg hz]
  exact zmag_roundRatio_le good_b64 (e0 := min b64.qmin (q1 - q2)) (by omega) hV hn (by omega) (by omega) ((own_units h1.2.1 h2.2.1).1.mp h)
theorem own_quot_ge {s1 s2 : Bool} {c1 c2 : Nat} {q1 q2 : Int} {V : Datum} (h1 : Jvm.FP.Core.fits b64 (Datum.fin s1 c1 q1)) (h2 : Jvm.FP.Core.fits b64 (Datum.fin s2 c2 q2)) (hz : c2 ≠ 0) (hV : Jvm.FP.Core.fits b64 V)
    (h : zmag b64 V * zmag b64 (.fin s2 c2 q2) ≤ zmag b64 (.fin s1 c1 q1) * one64) : zmag b64 V ≤ zmag b64 (quotient b64 (.fin s1 c1 q1) (.fin s2 c2 q2)) := by
  simp only [quotient]
  rw [if_neg hz]
  exact zmag_roundRatio_ge good_b64 (e0 := min b64.qmin (q1 - q2)) (by omega) hV (by omega) (by omega) ((own_units h1.2.1 h2.2.1).2.mp h)
/-- the value of l2d -/
theorem own_l2d_zmag_le {n : Int64} {V : Datum} (hV : Jvm.FP.Core.fits b64 V) (hn : V ≠ .nan) (h : n.toInt.natAbs * one64 ≤ zmag b64 V) : zmag b64 (val64 (l2d n)) ≤ zmag b64 V := by
  rw [val64_l2d]
  show zmag b64 (roundRatio b64 _ _ 1 0) ≤ _
  refine zmag_roundRatio_le good_b64 (e0 := b64.qmin) (by decide) hV hn (by omega) (by rw [qmin_b64]; decide) ?_
  unfold inUnits
  rw [show (0 - b64.qmin) = -b64.qmin by omega, pow_qmin64, Int.sub_self]
  simpa using h
theorem own_l2d_zmag_ge {n : Int64} {V : Datum} (hV : Jvm.FP.Core.fits b64 V) (h : zmag b64 V ≤ n.toInt.natAbs * one64) : zmag b64 V ≤ zmag b64 (val64 (l2d n)) := by
  rw [val64_l2d]
  show _ ≤ zmag b64 (roundRatio b64 _ _ 1 0)
  refine zmag_roundRatio_ge good_b64 (e0 := b64.qmin) (by decide) hV (by omega) (by rw [qmin_b64]; decide) ?_
  unfold inUnits
  rw [show (0 - b64.qmin) = -b64.qmin by omega, pow_qmin64, Int.sub_self]
  simpa using h
theorem own_l2d_sgn (n : Int64) : sgn (val64 (l2d n)) = decide (n.toInt < 0) := by
  rw [val64_l2d]; exact sgn_roundRatio ..
theorem own_l2d_exact {n : Int64} (h : n.toInt.natAbs < 2 ^ 53) : zmag b64 (val64 (l2d n)) = n.toInt.natAbs * one64 := by
  rw [val64_l2d]
  obtain ⟨c, q, e1, e2⟩ := round_exact good_b64 (decide (n.toInt < 0)) (c := n.toInt.natAbs) (q := 0) h (by rw [qmin_b64]; decide) (by decide)
  rw [show ofInt n.toInt = .fin (decide (n.toInt < 0)) n.toInt.natAbs 0 from rfl, e1]
  show inUnits c q b64.qmin = _
  rw [e2]
  unfold inUnits
  rw [show (0 - b64.qmin) = -b64.qmin by omega, pow_qmin64]
theorem own_quot_sgn {s1 s2 : Bool} {c1 c2 : Nat} {q1 q2 : Int} (hz : c2 ≠ 0) : sgn (quotient b64 (.fin s1 c1 q1) (.fin s2 c2 q2)) = (s1 != s2) := by
  simp only [quotient]
  rw [if_neg hz]; exact sgn_roundRatio ..
theorem own_quot_nan {s1 s2 : Bool} {c1 c2 : Nat} {q1 q2 : Int} (hz : c2 ≠ 0) : quotient b64 (.fin s1 c1 q1) (.fin s2 c2 q2) ≠ .nan := by
  simp only [quotient]
  rw [if_neg hz]; exact roundRatio_ne_nan _ _ _ _ _
theorem own_zmag0 {s : Bool} {c : Nat} {q : Int} (h : zmag b64 (.fin s c q) ≠ 0) : c ≠ 0 := fun z => h (by subst z; unfold zmag inUnits; simp)
/-- the quotient of two doubles, its value known: equal to V -/
theorem own_div {a b : UInt64} {V : Datum} (ha : DFin a) (hb : DFin b) (hb0 : zmag b64 (val64 b) ≠ 0) (hV : Jvm.FP.Core.fits b64 V) (hn : V ≠ .nan) (hm : zmag b64 (val64 a) * one64 = zmag b64 V * zmag b64 (val64 b)) (hs : zmag b64 V = 0 ∨ sgn V = (sgn (val64 a) != sgn (val64 b))) :
    val64 (ddiv a b) ≠ .nan ∧ zval b64 (val64 (ddiv a b)) = zval b64 V := by
  obtain ⟨s1, c1, q1, e1⟩ := ha
  obtain ⟨s2, c2, q2, e2⟩ := hb
  have f1 := val64_fits a
  have f2 := val64_fits b
  rw [e1] at f1 hm hs
  rw [e2] at f2 hm hs hb0
  have hz := own_zmag0 hb0
  rw [val64_ddiv, e1, e2]
  have hq := Nat.le_antisymm (own_quot_le f1 f2 hz hV hn (Nat.le_of_eq hm)) (own_quot_ge f1 f2 hz hV (Nat.le_of_eq hm.symm))
  refine ⟨own_quot_nan hz, ?_⟩
  unfold zval
  rw [hq, own_quot_sgn hz]
  rcases hs with h0 | h0
  · rw [h0]; cases (s1 != s2) <;> cases (sgn V) <;> rfl
  · rw [h0]; rfl
theorem own_byOne (s : Int64) : dcmp (ddiv (l2d s) (l2d 1)) (l2d s) = some .eq := by
  have hn : val64 (l2d s) ≠ .nan := (l2d_fin s).ne_nan
  have e1 : zmag b64 (val64 (l2d 1)) = one64 := by rw [own_l2d_exact (by decide), show (1 : Int64).toInt.natAbs = 1 by decide, Nat.one_mul]
  have hp := one64_pos
  have h := own_div (l2d_fin s) (l2d_fin 1) (by rw [e1]; omega) (val64_fits (l2d s)) hn (by rw [e1]) (Or.inr (by
    rw [own_l2d_sgn 1]; cases sgn (val64 (l2d s)) <;> rfl))
  exact dcmp_eq.mpr ⟨h.1, hn, h.2⟩
theorem own_product {x y p : Int64} (hp : p.toInt = x.toInt * y.toInt) (hx : x.toInt.natAbs < 2 ^ 53) (hy : y.toInt.natAbs < 2 ^ 53) (hpp : p.toInt.natAbs < 2 ^ 53) (h0 : y.toInt ≠ 0) : dcmp (ddiv (l2d p) (l2d y)) (l2d x) = some .eq := by
  have hn : val64 (l2d x) ≠ .nan := (l2d_fin x).ne_nan
  have ho := one64_pos
  have ey := own_l2d_exact hy
  have ex := own_l2d_exact hx
  have ep := own_l2d_exact hpp
  have hy0 : 0 < y.toInt.natAbs := by omega
  have hpa : p.toInt.natAbs = x.toInt.natAbs * y.toInt.natAbs := by rw [hp, Int.natAbs_mul]
  have h := own_div (l2d_fin p) (l2d_fin y) (by rw [ey]; exact Nat.ne_of_gt (Nat.mul_pos hy0 ho)) (val64_fits (l2d x)) hn (by rw [ey, ex, ep, hpa]; generalize one64 = O; ac_rfl) (by
    by_cases hx0 : x.toInt = 0
    · exact Or.inl (by rw [ex, hx0]; simp)
    · refine Or.inr ?_
      rw [own_l2d_sgn, own_l2d_sgn, own_l2d_sgn, hp]
      rcases Int.lt_or_gt_of_ne hx0 with a | a <;> rcases Int.lt_or_gt_of_ne h0 with b | b
      · have := Int.mul_pos_of_neg_of_neg a b
        simp [a, b, Int.not_lt.mpr (Int.le_of_lt this)]
      · have := Int.mul_neg_of_neg_of_pos a b
        simp [a, this, Int.not_lt.mpr (Int.le_of_lt b)]
      · have := Int.mul_neg_of_pos_of_neg a b
        simp [b, this, Int.not_lt.mpr (Int.le_of_lt a)]
      · have := Int.mul_pos a b
        simp [Int.not_lt.mpr (Int.le_of_lt this), Int.not_lt.mpr (Int.le_of_lt a), Int.not_lt.mpr (Int.le_of_lt b)])
  exact dcmp_eq.mpr ⟨h.1, hn, h.2⟩

theorem own_2 : zmag b64 (val64 (l2d 2)) = 2 * one64 := by rw [own_l2d_exact (by decide), show (2 : Int64).toInt.natAbs = 2 by decide]
def own_half64 : UInt64 := 4602678819172646912
theorem own_half_val : val64 own_half64 = .fin false 4503599627370496 (-53) := by decide +kernel
theorem own_half_z : zval b64 (val64 own_half64) * 2 = (one64 : Int) := by
  rw [own_half_val]
  show (signed false (inUnits 4503599627370496 (-53) b64.qmin)) * 2 = _
  unfold signed inUnits
  rw [qmin_b64, if_neg (by decide), show (-53 - -1074 : Int).toNat = 1021 by decide]
  unfold one64
  rw [show (4503599627370496 : Nat) = 2 ^ 52 by decide, ← Nat.pow_add, show (1074 : Nat) = 52 + 1021 + 1 by decide, Nat.pow_succ]
  generalize 2 ^ (52 + 1021) = P
  omega
/-- i2d is exact -/
theorem own_i2d_z (z : Int32) : zval b64 (val64 (i2d z)) = z.toInt * (one64 : Int) := by
  rw [val64_i2d]
  have hz := int32_abs z
  obtain ⟨c, q, e1, e2⟩ := round_exact good_b64 (decide (z.toInt < 0)) (c := z.toInt.natAbs) (q := 0) (Nat.lt_of_le_of_lt hz (by decide)) (by rw [qmin_b64]; decide) (by decide)
  rw [show ofInt z.toInt = .fin (decide (z.toInt < 0)) z.toInt.natAbs 0 from rfl, e1]
  show signed (decide (z.toInt < 0)) (inUnits c q b64.qmin) = _
  rw [e2]
  unfold inUnits
  rw [show (0 - b64.qmin) = -b64.qmin by omega, pow_qmin64]
  generalize one64 = O
  unfold signed
  by_cases h : z.toInt < 0
  · rw [if_pos (by simpa using h), Int.natCast_mul, show (z.toInt.natAbs : Int) = -z.toInt by omega, Int.neg_mul, Int.neg_neg]
  · rw [if_neg (by simpa using h), Int.natCast_mul, show (z.toInt.natAbs : Int) = z.toInt by omega]
theorem own_signed_abs (s : Bool) (n : Nat) : (signed s n).natAbs = n := by cases s <;> simp [signed]
theorem own_halves {z : Int32} {w : Int64} (hw : w.toInt = 2 * z.toInt + 1) : dcmp (ddiv (l2d w) (l2d 2)) (dadd (i2d z) own_half64) = some .eq := by
  have ho := one64_pos
  have hz := int32_abs z
  have hwa : w.toInt.natAbs < 2 ^ 53 := by
    have : (2 : Nat) ^ 31 * 4 ≤ 2 ^ 53 := by decide
    omega
  -- the number itself: (2z+1) * 2^-1
  obtain ⟨c, q, e1, e2⟩ := round_exact good_b64 (decide (w.toInt < 0)) (c := w.toInt.natAbs) (q := -1) hwa (by rw [qmin_b64]; decide) (by decide)
  obtain ⟨V, hVe⟩ : ∃ V, V = round b64 (.fin (decide (w.toInt < 0)) w.toInt.natAbs (-1)) := ⟨_, rfl⟩
  have hVf : Jvm.FP.Core.fits b64 V := by rw [hVe]; exact round_fits good_b64 _
  have hVn : V ≠ .nan := by rw [hVe, e1]; exact Datum.noConfusion
  have hVs : sgn V = decide (w.toInt < 0) := by rw [hVe, e1]; rfl
  have hVm : zmag b64 V * 2 = w.toInt.natAbs * one64 := by
    rw [hVe, e1]
    show inUnits c q b64.qmin * 2 = _
    rw [e2]
    unfold inUnits one64
    rw [qmin_b64, show (-1 - -1074 : Int).toNat = 1073 by decide, Nat.mul_assoc, ← Nat.pow_succ]
  have hd := own_div (l2d_fin w) (l2d_fin 2) (by rw [own_2]; omega) hVf hVn (by
    rw [own_2, own_l2d_exact hwa, ← hVm]; generalize one64 = O; ac_rfl) (Or.inr (by rw [hVs, own_l2d_sgn, own_l2d_sgn 2]; cases decide (w.toInt < 0) <;> rfl))
  have hzV : zval b64 V * 2 = w.toInt * (one64 : Int) := by
    unfold zval signed
    rw [hVs]
    by_cases h : w.toInt < 0
    · rw [if_pos (by simpa using h), Int.neg_mul]
      have : ((zmag b64 V : Nat) : Int) * 2 = (w.toInt.natAbs : Int) * (one64 : Int) := by rw [← Int.natCast_mul, ← hVm]; rfl
      rw [this, show (w.toInt.natAbs : Int) = -w.toInt by omega, Int.neg_mul, Int.neg_neg]
    · rw [if_neg (by simpa using h)]
      have : ((zmag b64 V : Nat) : Int) * 2 = (w.toInt.natAbs : Int) * (one64 : Int) := by rw [← Int.natCast_mul, ← hVm]; rfl
      rw [this, show (w.toInt.natAbs : Int) = w.toInt by omega]
  -- the sum
  obtain ⟨s1, c1, q1, i1⟩ := i2d_fin z
  have f1 := val64_fits (i2d z)
  have f2 := val64_fits own_half64
  have z1 := own_i2d_z z
  have z2 := own_half_z
  rw [i1] at f1 z1
  rw [own_half_val] at f2 z2
  obtain ⟨sg, n, ee, g1, g2, g3⟩ := sum_units f1 f2
  have g4 : signed sg (inUnits n ee b64.qmin) = zval b64 V := by
    rw [g3, z1]
    have : z.toInt * (one64 : Int) * 2 + (one64 : Int) = w.toInt * (one64 : Int) := by rw [hw]; generalize (one64 : Int) = O; rw [Int.add_mul, Int.mul_assoc, Int.mul_comm O 2, ← Int.mul_assoc, Int.mul_comm z.toInt 2]; omega
    omega
  have hs : val64 (dadd (i2d z) own_half64) = round b64 (.fin sg n ee) := by rw [val64_dadd, i1, own_half_val, g1]
  have hle := zval_round_le good_b64 (s := sg) (c := n) (q := ee) (e0 := b64.qmin) hVf hVn (Int.le_refl _) g2 (by rw [g4, Int.sub_self]; simp)
  have hge := zval_round_ge good_b64 (s := sg) (c := n) (q := ee) (e0 := b64.qmin) hVf hVn (Int.le_refl _) g2 (by rw [g4, Int.sub_self]; simp)
  refine dcmp_eq.mpr ⟨hd.1, by rw [hs]; exact roundRatio_ne_nan _ _ _ _ _, ?_⟩
  rw [hd.2, hs]
  omega

theorem own_mono {a b : Int64} (h0 : 0 ≤ a.toInt) (hab : a.toInt ≤ b.toInt) : zmag b64 (val64 (l2d a)) ≤ zmag b64 (val64 (l2d b)) := by
  by_cases hE : a.toInt = b.toInt
  · rw [Int64.toInt_inj.mp hE]; exact Nat.le_refl _
  have ho := one64_pos
  by_cases h1 : zmag b64 (val64 (l2d a)) ≤ b.toInt.natAbs * one64
  · exact own_l2d_zmag_ge (val64_fits _) h1
  by_cases h2 : a.toInt.natAbs * one64 ≤ zmag b64 (val64 (l2d b))
  · exact own_l2d_zmag_le (val64_fits _) (l2d_fin b).ne_nan h2
  exfalso
  obtain ⟨s1, c1, q1, e1⟩ := l2d_fin a
  obtain ⟨s2, c2, q2, e2⟩ := l2d_fin b
  have f1 := val64_fits (l2d a)
  have f2 := val64_fits (l2d b)
  rw [e1] at f1 h1
  rw [e2] at f2 h2
  have r1 : roundRatio b64 (decide (a.toInt < 0)) a.toInt.natAbs 1 0 = .fin s1 c1 q1 := by rw [← e1, val64_l2d]; rfl
  have r2 : roundRatio b64 (decide (b.toInt < 0)) b.toInt.natAbs 1 0 = .fin s2 c2 q2 := by rw [← e2, val64_l2d]; rfl
  have d1 := roundRatio_nearest good_b64 (e0 := b64.qmin) (by decide) r1 f2.1 f2.2.1 (Int.le_refl _) (by rw [qmin_b64]; decide)
  have d2 := roundRatio_nearest good_b64 (e0 := b64.qmin) (by decide) r2 f1.1 f1.2.1 (Int.le_refl _) (by rw [qmin_b64]; decide)
  have hA : ∀ x : Nat, inUnits x 0 b64.qmin = x * one64 := fun x => by unfold inUnits; rw [show (0 - b64.qmin) = -b64.qmin by omega, pow_qmin64]
  unfold distance at d1 d2
  rw [hA, Int.natCast_one, Int.mul_one, Int.mul_one] at d1 d2
  have k1 : ¬ inUnits c1 q1 b64.qmin ≤ b.toInt.natAbs * one64 := h1
  have k2 : ¬ a.toInt.natAbs * one64 ≤ inUnits c2 q2 b64.qmin := h2
  have hlt : a.toInt.natAbs * one64 < b.toInt.natAbs * one64 := Nat.mul_lt_mul_of_pos_right (by omega) ho
  generalize inUnits c1 q1 b64.qmin = X at *
  generalize inUnits c2 q2 b64.qmin = Y at *
  generalize a.toInt.natAbs * one64 = P at *
  generalize b.toInt.natAbs * one64 = Q at *
  omega
theorem own_divle {a b : UInt64} {V : Datum} (ha : DFin a) (hb : DFin b) (hb0 : zmag b64 (val64 b) ≠ 0) (hV : Jvm.FP.Core.fits b64 V) (hn : V ≠ .nan) (hm : zmag b64 (val64 a) * one64 ≤ zmag b64 V * zmag b64 (val64 b)) : zmag b64 (val64 (ddiv a b)) ≤ zmag b64 V := by
  obtain ⟨s1, c1, q1, e1⟩ := ha
  obtain ⟨s2, c2, q2, e2⟩ := hb
  have f1 := val64_fits a
  have f2 := val64_fits b
  rw [e1] at f1 hm
  rw [e2] at f2 hm hb0
  rw [val64_ddiv, e1, e2]
  exact own_quot_le f1 f2 (own_zmag0 hb0) hV hn hm
theorem own_divge {a b : UInt64} {V : Datum} (ha : DFin a) (hb : DFin b) (hb0 : zmag b64 (val64 b) ≠ 0) (hV : Jvm.FP.Core.fits b64 V) (hm : zmag b64 V * zmag b64 (val64 b) ≤ zmag b64 (val64 a) * one64) : zmag b64 V ≤ zmag b64 (val64 (ddiv a b)) := by
  obtain ⟨s1, c1, q1, e1⟩ := ha
  obtain ⟨s2, c2, q2, e2⟩ := hb
  have f1 := val64_fits a
  have f2 := val64_fits b
  rw [e1] at f1 hm
  rw [e2] at f2 hm hb0
  rw [val64_ddiv, e1, e2]
  exact own_quot_ge f1 f2 (own_zmag0 hb0) hV hm
theorem own_divnn {a b : UInt64} (ha : DFin a) (hb : DFin b) (hb0 : zmag b64 (val64 b) ≠ 0) : val64 (ddiv a b) ≠ .nan ∧ sgn (val64 (ddiv a b)) = (sgn (val64 a) != sgn (val64 b)) := by
  obtain ⟨s1, c1, q1, e1⟩ := ha
  obtain ⟨s2, c2, q2, e2⟩ := hb
  rw [e2] at hb0
  rw [val64_ddiv, e1, e2]
  exact ⟨own_quot_nan (own_zmag0 hb0), own_quot_sgn (own_zmag0 hb0)⟩
def own_one64 : UInt64 := 4607182418800017408
theorem own_one_val : val64 own_one64 = .fin false 4503599627370496 (-52) := by decide +kernel
theorem own_one_m : zmag b64 (val64 own_one64) = one64 := by
  rw [own_one_val]
  show inUnits 4503599627370496 (-52) b64.qmin = _
  unfold inUnits one64
  rw [qmin_b64, show (-52 - -1074 : Int).toNat = 1022 by decide, show (4503599627370496 : Nat) = 2 ^ 52 by decide, ← Nat.pow_add]
theorem own_bounds {lo hi : Int64} (h0 : 0 < lo.toInt) (hlh : lo.toInt ≤ hi.toInt) :
    dcmp 0 (ddiv (l2d lo) (l2d hi)) = some .lt ∧ (dcmp (ddiv (l2d lo) (l2d hi)) own_one64 = some .lt ∨ dcmp (ddiv (l2d lo) (l2d hi)) own_one64 = some .eq) ∧ (dcmp own_one64 (ddiv (l2d hi) (l2d lo)) = some .lt ∨ dcmp own_one64 (ddiv (l2d hi) (l2d lo)) = some .eq) := by
  have ho := one64_pos
  have hm := own_mono (Int.le_of_lt h0) hlh
  have one1 : one64 ≤ zmag b64 (val64 (l2d lo)) := by
    have := own_l2d_zmag_ge (n := lo) (val64_fits own_one64) (by rw [own_one_m]; exact Nat.le_mul_of_pos_left _ (by omega))
    rw [own_one_m] at this; exact this
  have big : zmag b64 (val64 (l2d hi)) ≤ 2 ^ 63 * one64 := by
    have fB : Jvm.FP.Core.fits b64 (.fin false 4503599627370496 11) := by
      show _ ∧ _
      decide +kernel
    have zB : zmag b64 (.fin false 4503599627370496 11) = 2 ^ 63 * one64 := by
      show inUnits 4503599627370496 11 b64.qmin = _
      unfold inUnits one64
      rw [qmin_b64, show (11 - -1074 : Int).toNat = 11 + 1074 by decide, Nat.pow_add, ← Nat.mul_assoc]
    have := own_l2d_zmag_le (n := hi) fB (fun h => Datum.noConfusion h) (by rw [zB]; exact Nat.mul_le_mul_right _ (int64_abs hi))
    rw [zB] at this; exact this
  have pw : 2 ^ 63 ≤ one64 := by unfold one64; exact Nat.pow_le_pow_right (by decide) (by decide)
  have sl : sgn (val64 (l2d lo)) = false := by rw [own_l2d_sgn]; simp; omega
  have sh : sgn (val64 (l2d hi)) = false := by rw [own_l2d_sgn]; simp; omega
  have nl : zmag b64 (val64 (l2d lo)) ≠ 0 := by omega
  have nh : zmag b64 (val64 (l2d hi)) ≠ 0 := by omega
  obtain ⟨n1, g1⟩ := own_divnn (l2d_fin lo) (l2d_fin hi) nh
  obtain ⟨n2, g2⟩ := own_divnn (l2d_fin hi) (l2d_fin lo) nl
  rw [sl, sh] at g1 g2
  have no : val64 own_one64 ≠ .nan := by rw [own_one_val]; exact fun h => Datum.noConfusion h
  have zo : zval b64 (val64 own_one64) = (one64 : Int) := by
    unfold zval; rw [own_one_m, own_one_val]; rfl
  have zd : zval b64 (val64 (ddiv (l2d lo) (l2d hi))) = ((zmag b64 (val64 (ddiv (l2d lo) (l2d hi))) : Nat) : Int) := by
    unfold zval; rw [g1]; rfl
  have zu : zval b64 (val64 (ddiv (l2d hi) (l2d lo))) = ((zmag b64 (val64 (ddiv (l2d hi) (l2d lo))) : Nat) : Int) := by
    unfold zval; rw [g2]; rfl
  have p1 : 1 ≤ zmag b64 (val64 (ddiv (l2d lo) (l2d hi))) := by
    have fS : Jvm.FP.Core.fits b64 (.fin false 1 b64.qmin) := by
      show _ ∧ _
      decide +kernel
    have zS : zmag b64 (.fin false 1 b64.qmin) = 1 := by
      show inUnits 1 b64.qmin b64.qmin = 1
      unfold inUnits; rw [Int.sub_self]; rfl
    have := own_divge (l2d_fin lo) (l2d_fin hi) nh fS (by
      rw [zS, Nat.one_mul]
      exact Nat.le_trans big (Nat.le_trans (Nat.mul_le_mul_right _ pw) (Nat.mul_le_mul_right _ one1)))
    rw [zS] at this; exact this
  have p2 : zmag b64 (val64 (ddiv (l2d lo) (l2d hi))) ≤ one64 := by
    have := own_divle (l2d_fin lo) (l2d_fin hi) nh (val64_fits own_one64) no (by rw [own_one_m, Nat.mul_comm]; exact Nat.mul_le_mul_left _ hm)
    rw [own_one_m] at this; exact this
  have p3 : one64 ≤ zmag b64 (val64 (ddiv (l2d hi) (l2d lo))) := by
    have := own_divge (l2d_fin hi) (l2d_fin lo) nl (val64_fits own_one64) (by rw [own_one_m, Nat.mul_comm]; exact Nat.mul_le_mul_right _ hm)
    rw [own_one_m] at this; exact this
  refine ⟨dcmp_lt.mpr ⟨by rw [val64_zero]; exact fun h => Datum.noConfusion h, n1, ?_⟩, dcmp_le.mpr ⟨n1, no, ?_⟩, dcmp_le.mpr ⟨no, n2, ?_⟩⟩
  · rw [zval64_zero, zd]; omega
  · rw [zd, zo]; exact Int.ofNat_le.mpr p2
  · rw [zu, zo]; exact Int.ofNat_le.mpr p3

theorem own_l2d_pos {y : Int64} (hy : y.toInt ≠ 0) : zmag b64 (val64 (l2d y)) ≠ 0 := by
  have ho := one64_pos
  have := own_l2d_zmag_ge (n := y) (val64_fits own_one64) (by rw [own_one_m]; exact Nat.le_mul_of_pos_left _ (by omega))
  rw [own_one_m] at this
  omega
theorem own_nonan {r : UInt64} (h : val64 r ≠ .nan) : Jvm.Free.Fl.NoNaN64 r := by
  unfold Jvm.Free.Fl.NoNaN64
  rw [UInt64.le_iff_toNat_le, mask_toNat]
  exact (ne_nan r).mp h
theorem own_nn {x y : Int64} (hy : y.toInt ≠ 0) : Jvm.Free.Fl.NoNaN64 (Jvm.FP.Core.ddiv (Jvm.FP.Core.l2d x) (Jvm.FP.Core.l2d y)) := own_nonan (own_divnn (l2d_fin x) (l2d_fin y) (own_l2d_pos hy)).1
theorem own_nnadd {z : Int32} {w : Int64} (hw : w.toInt = 2 * z.toInt + 1) : Jvm.Free.Fl.NoNaN64 (Jvm.FP.Core.dadd (Jvm.FP.Core.i2d z) own_half64) := own_nonan (dcmp_some (own_halves hw)).2
end OwnFl
end Jvm.Pilot.@@N@@
namespace Jvm.Pilot.@@N@@
open Jvm Jvm.ClassFile Sem Op Lib Jvm.Free Jvm.Stand Jvm.LawKit Jvm.RoadKit Bundle Jvm.Pilot.@@N@@.Jvm.D

def own_A (Z : State) (h : Heap) (a : Addr) (ty : FieldType) (n : Nat) (f : Nat → Int32) : Prop := ∃ c : Cell, Arr Z h a c ty ∧ c.slots.size = n ∧ ∀ j, j < n → c.slots[j]? = some (.int (f j))
theorem own_A_new {Z : State} {h : Heap} {a : Addr} {k : ClassId} {ty : FieldType} {z : Int32} {n : Nat} (A : Arr Z h a (newA k ty z) ty) (hd : defaultValue ty = .int 0) (hn : z.toNatClampNeg = n) : own_A Z h a ty n (fun _ => 0) :=
  ⟨_, A, by rw [sz_new, hn], fun j hj => by simp [newA, hn, hd, hj]⟩
theorem own_A_set {Z : State} {h h' : Heap} {a : Addr} {ty : FieldType} {n i : Nat} {f : Nat → Int32} {v : Int32} (F : own_A Z h a ty n f) (W : Wr h h' a i (.int v)) : own_A Z h' a ty n (upd f i v) := by
  obtain ⟨c, A, S, H⟩ := F
  refine ⟨_, A.same W, by rw [sz_set, S], fun j hj => ?_⟩
  show (c.slots.setIfInBounds i (.int v))[j]? = _
  rw [Array.getElem?_setIfInBounds]
  by_cases e : i = j
  · subst e; rw [if_pos rfl, if_pos (by rw [S]; exact hj)]; simp [upd]
  · rw [if_neg e, H j hj]; simp [upd, Ne.symm e]
theorem own_A_ext {Z : State} {h h' : Heap} {a : Addr} {ty : FieldType} {n : Nat} {f : Nat → Int32} (F : own_A Z h a ty n f) (E : Ext h h') : own_A Z h' a ty n f := by
  obtain ⟨c, A, S, H⟩ := F; exact ⟨c, A.ext E, S, H⟩
theorem own_A_other {Z : State} {h h' : Heap} {a b : Addr} {ty : FieldType} {n sl : Nat} {f : Nat → Int32} {v : Value} (F : own_A Z h a ty n f) (W : Wr h h' b sl v) (q : a ≠ b) : own_A Z h' a ty n f := by
  obtain ⟨c, A, S, H⟩ := F; exact ⟨c, A.other W q, S, H⟩
theorem own_A_keep {Z : State} {h h' : Heap} {a : Addr} {ty : FieldType} {n : Nat} {f : Nat → Int32} {ws : List Addr} (F : own_A Z h a ty n f) (K : Keep h h' ws) (q : a ∉ ws) : own_A Z h' a ty n f := by
  obtain ⟨c, A, S, H⟩ := F; exact ⟨c, ⟨K.2.1 a c A.1 q, A.2⟩, S, H⟩
theorem own_A_lt {Z : State} {h : Heap} {a : Addr} {ty : FieldType} {n : Nat} {f : Nat → Int32} (F : own_A Z h a ty n f) : a < h.size := by obtain ⟨c, A, -⟩ := F; exact A.lt
theorem own_upd_same (f : Nat → Int32) (i : Nat) (v : Int32) : upd f i v i = v := by simp [upd]
theorem own_upd_ne (f : Nat → Int32) {i j : Nat} (v : Int32) (h : j ≠ i) : upd f i v j = f j := by simp [upd, h]
theorem own_toNat (y : Int32) (h : 0 ≤ y.toInt) : y = Int32.ofNat y.toInt.toNat := by
  have a := y.toInt_lt
  rw [← Int32.toInt_inj, toInt_of rfl (by omega)]
  omega
theorem own_mask (x m : Int32) {k : Nat} (hk : k < 32) (hm : m.toBitVec.toNat = 2 ^ k - 1) : ∃ n : Nat, x &&& m = Int32.ofNat n ∧ n < 2 ^ k := by
  have h := Jvm.Kit.i32_mask x m hk hm
  have hp : (0 : Int) < 2 ^ k := Int.pow_pos (by decide)
  have h1 := Int.emod_nonneg x.toInt (b := 2 ^ k) (by omega)
  have h2 := Int.emod_lt_of_pos x.toInt hp
  refine ⟨(x &&& m).toInt.toNat, own_toNat _ (by omega), ?_⟩
  have h3 : ((2 ^ k : Nat) : Int) = 2 ^ k := by simp
  omega
theorem own_lt {i n : Nat} (h : i < n) (hn : n < 2 ^ 31) : Int32.ofNat i < Int32.ofNat n := by
  rw [Int32.lt_iff_toInt_lt, toInt_of rfl (by omega : i < 2 ^ 31), toInt_of rfl hn]; omega
theorem own_nlt {i n : Nat} (h : n ≤ i) (hi : i < 2 ^ 31) : ¬ (Int32.ofNat i < Int32.ofNat n) := by
  rw [Int32.lt_iff_toInt_lt, toInt_of rfl hi, toInt_of rfl (by omega : n < 2 ^ 31)]; omega
theorem own_ne {i n : Nat} (h : i ≠ n) (hi : i < 2 ^ 31) (hn : n < 2 ^ 31) : ¬ (Int32.ofNat i = Int32.ofNat n) := by
  rw [← Int32.toInt_inj, toInt_of rfl hi, toInt_of rfl hn]; omega
theorem own_add (a b : Nat) : Int32.ofNat a + Int32.ofNat b = Int32.ofNat (a + b) := (Int32.ofNat_add a b).symm
theorem own_sub {a b : Nat} (h : b ≤ a) (ha : a < 2 ^ 31) : Int32.ofNat a - Int32.ofNat b = Int32.ofNat (a - b) := by
  rw [← Int32.toInt_inj, toInt_of rfl (by omega : a - b < 2 ^ 31)]
  have h1 : (Int32.ofNat a).toInt = a := toInt_of rfl ha
  have h2 : (Int32.ofNat b).toInt = b := toInt_of rfl (by omega)
  rw [Jvm.Kit.i32_sub (by omega) (by omega)]
  omega
theorem own_rem {a b : Nat} (ha : a < 2 ^ 31) (hb : b < 2 ^ 31) : Int32.ofNat a % Int32.ofNat b = Int32.ofNat (a % b) := by
  have h3 : a % b ≤ a := Nat.mod_le a b
  have h1 : (Int32.ofNat a).toInt = a := toInt_of rfl ha
  have h2 : (Int32.ofNat b).toInt = b := toInt_of rfl hb
  rw [← Int32.toInt_inj, toInt_of rfl (by omega : a % b < 2 ^ 31), Jvm.Kit.i32_rem_nonneg (by omega), h1, h2]
  omega
theorem pn_2 : plainName "java/lang/Record" = true := by first | (simp [plainName, overriddenIn]; done) | decide +kernel
theorem ef_2 (m : MethodId) (x0 : Addr) : entryFrame m #[(.ref x0)] 1 = mkF m 0 #[.val (.ref x0)] [] := by first | (simp [entryFrame, mkF, argsToLocals, Value.category]; done) | rfl
theorem d2_0 : decode jdk_30_method_1_code 0 = .ok (.aload_n 0, 1) := by decide +kernel
theorem d2_1 : decode jdk_30_method_1_code 1 = .ok (.invokespecial 1, 3) := by decide +kernel
theorem d2_4 : decode jdk_30_method_1_code 4 = .ok (.return_, 1) := by decide +kernel
def Q2 (Z : State) (a1 : Addr) (h0 : Heap) (n0 : Nat) (v : Option Value) (h : Heap) (L : List Loc) : Prop := v = none ∧ Fr n0 L ∧ h = h0
set_option maxRecDepth 65536 in
set_option maxHeartbeats 40000000 in
theorem rm2 (l : Launch) (Z : State) (a0 : Array Value) (hw : ∀ d ∈ tables_1, d.before a0 Z = true) (ws : List Jvm.Cond) (a1 : Addr) (h0 : Heap) (n0 : Nat) (Z0 : n0 ≤ h0.size) :
    MetFree l (⟨"java/lang/Record", "<init>", "()V"⟩ : MethodName) (head1 (Jvm.Cond.code (⟨"java/lang/Record", "<init>", "()V"⟩ : MethodName) jdk_30_method_1_code 1 none :: ws) ({ frames := 1, cells := 0, slots := 0, locals := 12 } : Room)) (fun aa_ U => aa_ = #[(.ref a1)] ∧ Z.Warmed39 U.vm ∧ U.heap = h0) (fun _ _ _ _ _ => True) (fun _ U o U' => ∃ v_ L_, o = .returned v_ ∧ Q2 Z a1 h0 n0 v_ U'.heap L_ ∧ FrameEnd U o U' L_ ({ frames := 1, cells := 0, slots := 0, locals := 12 } : Room).cells ({ frames := 1, cells := 0, slots := 0, locals := 12 } : Room).slots) := by
  refine MetFree.of_bodySF (plainFor_of_name pn_2) hisR ?_
  intro p e s m args below meth c s₁ Bd hml0 hP hK
  obtain ⟨rfl, hZ, hh⟩ := hP
  have hx := Bd.exec
  have hby := Bd.bytes
  have hml : c.maxLocals = 1 := hml0
  have hown : s.vm.findClass "java/lang/Record" = some m.cls := findClass_of_methodNamed Bd.named
  have hnm := (name_of_methodNamed Bd.named Bd.method).1
  have X0 : Stand p l e ({ frames := 1, cells := 0, slots := 0, locals := 12 } : Room) s m #[(.ref a1)] below meth c s₁ [] 0 0 := Stand.of_body Bd
  have e0 : s₁.heap = h0 := by rw [← hh, Bd.state]; rfl
  have N0 := Fr.nil n0
  have pre0 : ∀ t, Steps p.tables e below (s₁.setTop (mkF m 0 #[.val (.ref a1)] [])) t → Steps p.tables e below (s₁.setTop (entryFrame m #[(.ref a1)] 1)) t := fun t k_ => castTop (ef_2 m a1) k_
  have pre1 : ∀ t, Steps p.tables e below (s₁.setTop (mkF m 1 #[.val (.ref a1)] [(.ref a1)])) t → Steps p.tables e below _ t := fun t kt => pre0 t (by
    show Steps p.tables e below (s₁.setTop (mkF m 0 #[.val (.ref a1)] [])) _
    refine XS.aloadN X0.here hx rfl (hb hby d2_0) rfl rfl ?_
    exact kt)
  obtain ⟨T2, X2, e2, st2⟩ := initO X0 hx hZ hown (hw _ (List.mem_of_getElem? (i := 19) rfl)) (hw _ (List.mem_of_getElem? (i := 20) rfl)) (hw _ (List.mem_of_getElem? (i := 21) rfl)) e0 (g := (mkF m 1 #[.val (.ref a1)] [(.ref a1)])) rfl (by rw [hml]; rfl) rfl (hb hby d2_1) (by decide) (W := 0) (by show 2 * 0 + _ ≤ _; exact Nat.le_of_eq rfl) (by decide)
  obtain ⟨fs, hr, hrun, hended, hW, hsame⟩ := X2.leave (v := none) (fun _ => rfl)
  refine ⟨_, _, pre1 _ ?_, hrun, hended, _, _, rfl, ?_, ⟨_, rfl⟩, hW, hsame.mono (by decide) (by decide)⟩
  · show Steps p.tables e below (s₁.setTop (mkF m 1 #[.val (.ref a1)] [(.ref a1)])) _
    refine st2 _ ?_
    show Steps p.tables e below (T2.setTop (mkF m 4 #[.val (.ref a1)] [])) _
    exact X2.returnOut hx Bd.returns (hb hby d2_4) hr
  · show Q2 Z a1 h0 n0 _ T2.heap _
    rw [e2]
    exact ⟨rfl, N0, rfl⟩
theorem pn_1 : plainName "canonsign/cli/SigningSpeed" = true := by first | (simp [plainName, overriddenIn]; done) | decide +kernel
theorem ef_1 (m : MethodId) (x0 : Addr) (x1 : Addr) (x2 : Int64) (x3 : Int64) : entryFrame m #[(.ref x0), (.ref x1), (.long x2), (.long x3)] 6 = mkF m 0 #[.val (.ref x0), .val (.ref x1), .val (.long x2), .second, .val (.long x3), .second] [] := by first | (simp [entryFrame, mkF, argsToLocals, Value.category]; done) | rfl
theorem d1_0 : decode prog_37_method_1_code 0 = .ok (.aload_n 0, 1) := by decide +kernel
theorem pd_0 : parseMethodDescriptor "()V" = some ⟨[], none⟩ := by decide +kernel
theorem d1_1 : decode prog_37_method_1_code 1 = .ok (.invokespecial 1, 3) := by decide +kernel
theorem d1_4 : decode prog_37_method_1_code 4 = .ok (.aload_n 0, 1) := by decide +kernel
theorem d1_5 : decode prog_37_method_1_code 5 = .ok (.aload_n 1, 1) := by decide +kernel
theorem d1_6 : decode prog_37_method_1_code 6 = .ok (.putfield 7, 3) := by decide +kernel
theorem d1_9 : decode prog_37_method_1_code 9 = .ok (.aload_n 0, 1) := by decide +kernel
theorem d1_10 : decode prog_37_method_1_code 10 = .ok (.lload_n 2, 1) := by decide +kernel
theorem d1_11 : decode prog_37_method_1_code 11 = .ok (.putfield 13, 3) := by decide +kernel
theorem d1_14 : decode prog_37_method_1_code 14 = .ok (.aload_n 0, 1) := by decide +kernel
theorem d1_15 : decode prog_37_method_1_code 15 = .ok (.lload 4, 2) := by decide +kernel
theorem d1_17 : decode prog_37_method_1_code 17 = .ok (.putfield 17, 3) := by decide +kernel
theorem d1_20 : decode prog_37_method_1_code 20 = .ok (.return_, 1) := by decide +kernel
def Q1 (Z : State) (a1 : Addr) (x y : Int64) (h0 : Heap) (n0 : Nat) (v : Option Value) (h : Heap) (L : List Loc) : Prop := v = none ∧ Fr n0 L ∧ Keep h0 h [a1] ∧ Exa Z h a1 "canonsign/cli/SigningSpeed" ∧ Fld Z h a1 "canonsign/cli/SigningSpeed" "signNanos" "J" (.long x) ∧ Fld Z h a1 "canonsign/cli/SigningSpeed" "hmacNanos" "J" (.long y)
set_option maxRecDepth 65536 in
set_option maxHeartbeats 40000000 in
theorem rm1 (l : Launch) (Z : State) (a0 : Array Value) (hw : ∀ d ∈ tables_1, d.before a0 Z = true) (ws : List Jvm.Cond) (a1 : Addr) (a2 : Addr) (x : Int64) (y : Int64) (h0 : Heap) (n0 : Nat) (Z0 : n0 ≤ h0.size) (Ea : Exa Z h0 a1 "canonsign/cli/SigningSpeed") (Fs : Fld Z h0 a1 "canonsign/cli/SigningSpeed" "signature" "Ljava/lang/String;" .null) (F1 : Fld Z h0 a1 "canonsign/cli/SigningSpeed" "signNanos" "J" (.long 0)) (F2 : Fld Z h0 a1 "canonsign/cli/SigningSpeed" "hmacNanos" "J" (.long 0)) (ga : n0 ≤ a1) :
    MetFree l (⟨"canonsign/cli/SigningSpeed", "<init>", "(Ljava/lang/String;JJ)V"⟩ : MethodName) (head1 (Jvm.Cond.code (⟨"canonsign/cli/SigningSpeed", "<init>", "(Ljava/lang/String;JJ)V"⟩ : MethodName) prog_37_method_1_code 6 none :: ws) ({ frames := 2, cells := 0, slots := 0, locals := 24 } : Room)) (fun aa_ U => aa_ = #[(.ref a1), (.ref a2), (.long x), (.long y)] ∧ Z.Warmed39 U.vm ∧ U.heap = h0) (fun _ _ _ _ _ => True) (fun _ U o U' => ∃ v_ L_, o = .returned v_ ∧ Q1 Z a1 x y h0 n0 v_ U'.heap L_ ∧ FrameEnd U o U' L_ ({ frames := 2, cells := 0, slots := 0, locals := 24 } : Room).cells ({ frames := 2, cells := 0, slots := 0, locals := 24 } : Room).slots) := by
  refine MetFree.of_bodySF (plainFor_of_name pn_1) hisR ?_
  intro p e s m args below meth c s₁ Bd hml0 hP hK
  obtain ⟨rfl, hZ, hh⟩ := hP
  have hx := Bd.exec
  have hby := Bd.bytes
  have hml : c.maxLocals = 6 := hml0
  have hown : s.vm.findClass "canonsign/cli/SigningSpeed" = some m.cls := findClass_of_methodNamed Bd.named
  have hnm := (name_of_methodNamed Bd.named Bd.method).1
  have X0 : Stand p l e ({ frames := 2, cells := 0, slots := 0, locals := 24 } : Room) s m #[(.ref a1), (.ref a2), (.long x), (.long y)] below meth c s₁ [] 0 0 := Stand.of_body Bd
  have e0 : s₁.heap = h0 := by rw [← hh, Bd.state]; rfl
  have N0 := Fr.nil n0
  have pre0 : ∀ t, Steps p.tables e below (s₁.setTop (mkF m 0 #[.val (.ref a1), .val (.ref a2), .val (.long x), .second, .val (.long y), .second] [])) t → Steps p.tables e below (s₁.setTop (entryFrame m #[(.ref a1), (.ref a2), (.long x), (.long y)] 6)) t := fun t k_ => castTop (ef_1 m a1 a2 x y) k_
  have pre1 : ∀ t, Steps p.tables e below (s₁.setTop (mkF m 1 #[.val (.ref a1), .val (.ref a2), .val (.long x), .second, .val (.long y), .second] [(.ref a1)])) t → Steps p.tables e below _ t := fun t kt => pre0 t (by
    show Steps p.tables e below (s₁.setTop (mkF m 0 #[.val (.ref a1), .val (.ref a2), .val (.long x), .second, .val (.long y), .second] [])) _
    refine XS.aloadN X0.here hx rfl (hb hby d1_0) rfl rfl ?_
    exact kt)
  obtain ⟨_, _, ⟨T2, L2, k2, n2⟩, -, X2, ⟨Lc2, hQ2, l2, y2, z2⟩, st2⟩ := X0.specialBack hx (y := (⟨"java/lang/Record", "<init>", "()V"⟩ : MethodName)) rfl hown (mvT hZ (hw _ (List.mem_of_getElem? (i := 14) rfl))) (mvT hZ (hw _ (List.mem_of_getElem? (i := 15) rfl))) (mvT hZ (hw _ (List.mem_of_getElem? (i := 18) rfl))) (by decide) (backOf (W := 0) (rm2 l Z a0 hw [] a1 h0 n0 Z0) hZ (hw _ (List.mem_of_getElem? (i := 18) rfl)) (hw _ (List.mem_of_getElem? (i := 17) rfl)) (by decide) (by decide)) (g := (mkF m 1 #[.val (.ref a1), .val (.ref a2), .val (.long x), .second, .val (.long y), .second] [(.ref a1)])) rfl (by rw [hml]; rfl) (Steps.refl _) (a := a1) (argsL := []) (rest := []) (lenOf pd_0 rfl) rfl (by show 2 * 0 + _ ≤ _; exact Nat.le_of_eq rfl) (hb hby d1_1) (fun _ _ => ⟨rfl, e0, (by decide : 0 + 0 ≤ _), (by decide : 0 + 0 ≤ _)⟩)
  dsimp only [Pt.U, Pt.locs, Pt.cells, Pt.slots] at X2 l2 y2 z2 st2 hQ2
  subst l2 y2 z2
  obtain ⟨rfl, N2q, e2⟩ := hQ2
  have N2 := Fr.app N0 N2q
  have pre3 : ∀ t, Steps p.tables e below (T2.setTop (mkF m 6 #[.val (.ref a1), .val (.ref a2), .val (.long x), .second, .val (.long y), .second] [(.ref a2), (.ref a1)])) t → Steps p.tables e below _ t := fun t kt => pre1 t (by
    show Steps p.tables e below (s₁.setTop (mkF m 1 #[.val (.ref a1), .val (.ref a2), .val (.long x), .second, .val (.long y), .second] [(.ref a1)])) _
    refine st2.trans ?_
    show Steps p.tables e below (T2.setTop (mkF m 4 #[.val (.ref a1), .val (.ref a2), .val (.long x), .second, .val (.long y), .second] [])) _
    refine XS.aloadN X2.here hx rfl (hb hby d1_4) rfl rfl ?_
    show Steps p.tables e below (T2.setTop (mkF m 5 #[.val (.ref a1), .val (.ref a2), .val (.long x), .second, .val (.long y), .second] [(.ref a1)])) _
    refine XS.aloadN X2.here hx rfl (hb hby d1_5) rfl rfl ?_
    exact kt)
  obtain ⟨T4, h4, X4, e4, W4, st4⟩ := putF X2 hx hZ hown (host := "") (Or.inl (hw _ (List.mem_of_getElem? (i := 22) rfl))) Via.refl e2 Fs Ea (Or.inr ⟨(hw _ (List.mem_of_getElem? (i := 23) rfl)), rfl, hnm⟩) (hw _ (List.mem_of_getElem? (i := 1) rfl)) (ty := (.object "java/lang/String")) (by decide) rfl rfl (g := (mkF m 6 #[.val (.ref a1), .val (.ref a2), .val (.long x), .second, .val (.long y), .second] [(.ref a2), (.ref a1)])) rfl rfl (hb hby d1_6)
  have Fw4 := Fs.same W4
  have N4 := Fr.snoc X4 N2 ga
  have Zs4 : n0 ≤ h4.size := Nat.le_trans Z0 (Nat.le_of_eq W4.size.symm)
  have Kp4 : Keep h0 h4 [a1] := (Keep.refl h0 [a1]).wr W4 (Or.inl (List.mem_of_getElem? (i := 0) rfl))
  have Ec := Ea.wr W4
  have F1c := (F1.other W4 (Or.inr (slot_ne (Or.inr (hw _ (List.mem_of_getElem? (i := 25) rfl))) (Or.inr (hw _ (List.mem_of_getElem? (i := 23) rfl))) (by decide) (t := .long) (t' := (.object "java/lang/String")) (by decide) (by decide))))
  have F2c := (F2.other W4 (Or.inr (slot_ne (Or.inr (hw _ (List.mem_of_getElem? (i := 27) rfl))) (Or.inr (hw _ (List.mem_of_getElem? (i := 23) rfl))) (by decide) (t := .long) (t' := (.object "java/lang/String")) (by decide) (by decide))))
  have pre5 : ∀ t, Steps p.tables e below (T4.setTop (mkF m 11 #[.val (.ref a1), .val (.ref a2), .val (.long x), .second, .val (.long y), .second] [(.long x), (.ref a1)])) t → Steps p.tables e below _ t := fun t kt => pre3 t (by
    show Steps p.tables e below (T2.setTop (mkF m 6 #[.val (.ref a1), .val (.ref a2), .val (.long x), .second, .val (.long y), .second] [(.ref a2), (.ref a1)])) _
    refine st4 _ ?_
    show Steps p.tables e below (T4.setTop (mkF m 9 #[.val (.ref a1), .val (.ref a2), .val (.long x), .second, .val (.long y), .second] [])) _
    refine XS.aloadN X4.here hx rfl (hb hby d1_9) rfl rfl ?_
    show Steps p.tables e below (T4.setTop (mkF m 10 #[.val (.ref a1), .val (.ref a2), .val (.long x), .second, .val (.long y), .second] [(.ref a1)])) _
    refine XS.lloadN X4.here hx rfl (hb hby d1_10) rfl ?_
    exact kt)
  obtain ⟨T6, h6, X6, e6, W6, st6⟩ := putF X4 hx hZ hown (host := "") (Or.inl (hw _ (List.mem_of_getElem? (i := 24) rfl))) Via.refl e4 F1c Ec (Or.inr ⟨(hw _ (List.mem_of_getElem? (i := 25) rfl)), rfl, hnm⟩) (hw _ (List.mem_of_getElem? (i := 1) rfl)) (ty := .long) (by decide) rfl rfl (g := (mkF m 11 #[.val (.ref a1), .val (.ref a2), .val (.long x), .second, .val (.long y), .second] [(.long x), (.ref a1)])) rfl rfl (hb hby d1_11)
  have Fw6 := F1c.same W6
  have N6 := Fr.snoc X6 N4 ga
  have Zs6 : n0 ≤ h6.size := Nat.le_trans Zs4 (Nat.le_of_eq W6.size.symm)
  have Kp6 : Keep h0 h6 [a1] := Kp4.wr W6 (Or.inl (List.mem_of_getElem? (i := 0) rfl))
  have Ed := Ec.wr W6
  have F1d : Fld Z h6 a1 "canonsign/cli/SigningSpeed" "signNanos" "J" (.long x) := Fw6
  have F2d := (F2c.other W6 (Or.inr (slot_ne (Or.inr (hw _ (List.mem_of_getElem? (i := 27) rfl))) (Or.inr (hw _ (List.mem_of_getElem? (i := 25) rfl))) (by decide) (t := .long) (t' := .long) (by decide) (by decide))))
  have pre7 : ∀ t, Steps p.tables e below (T6.setTop (mkF m 17 #[.val (.ref a1), .val (.ref a2), .val (.long x), .second, .val (.long y), .second] [(.long y), (.ref a1)])) t → Steps p.tables e below _ t := fun t kt => pre5 t (by
    show Steps p.tables e below (T4.setTop (mkF m 11 #[.val (.ref a1), .val (.ref a2), .val (.long x), .second, .val (.long y), .second] [(.long x), (.ref a1)])) _
    refine st6 _ ?_
    show Steps p.tables e below (T6.setTop (mkF m 14 #[.val (.ref a1), .val (.ref a2), .val (.long x), .second, .val (.long y), .second] [])) _
    refine XS.aloadN X6.here hx rfl (hb hby d1_14) rfl rfl ?_
    show Steps p.tables e below (T6.setTop (mkF m 15 #[.val (.ref a1), .val (.ref a2), .val (.long x), .second, .val (.long y), .second] [(.ref a1)])) _
    refine XS.lload X6.here hx rfl (hb hby d1_15) rfl ?_
    exact kt)
  obtain ⟨T8, h8, X8, e8, W8, st8⟩ := putF X6 hx hZ hown (host := "") (Or.inl (hw _ (List.mem_of_getElem? (i := 26) rfl))) Via.refl e6 F2d Ed (Or.inr ⟨(hw _ (List.mem_of_getElem? (i := 27) rfl)), rfl, hnm⟩) (hw _ (List.mem_of_getElem? (i := 1) rfl)) (ty := .long) (by decide) rfl rfl (g := (mkF m 17 #[.val (.ref a1), .val (.ref a2), .val (.long x), .second, .val (.long y), .second] [(.long y), (.ref a1)])) rfl rfl (hb hby d1_17)
  have Fw8 := F2d.same W8
  have N8 := Fr.snoc X8 N6 ga
  have Zs8 : n0 ≤ h8.size := Nat.le_trans Zs6 (Nat.le_of_eq W8.size.symm)
  have Kp8 : Keep h0 h8 [a1] := Kp6.wr W8 (Or.inl (List.mem_of_getElem? (i := 0) rfl))
  have Ee := Ed.wr W8
  have F1e := (F1d.other W8 (Or.inr (slot_ne (Or.inr (hw _ (List.mem_of_getElem? (i := 25) rfl))) (Or.inr (hw _ (List.mem_of_getElem? (i := 27) rfl))) (by decide) (t := .long) (t' := .long) (by decide) (by decide))))
  have F2e : Fld Z h8 a1 "canonsign/cli/SigningSpeed" "hmacNanos" "J" (.long y) := Fw8
  obtain ⟨fs, hr, hrun, hended, hW, hsame⟩ := X8.leave (v := none) (fun _ => rfl)
  refine ⟨_, _, pre7 _ ?_, hrun, hended, _, _, rfl, ?_, ⟨_, rfl⟩, hW, hsame.mono (by decide) (by decide)⟩
  · show Steps p.tables e below (T6.setTop (mkF m 17 #[.val (.ref a1), .val (.ref a2), .val (.long x), .second, .val (.long y), .second] [(.long y), (.ref a1)])) _
    refine st8 _ ?_
    show Steps p.tables e below (T8.setTop (mkF m 20 #[.val (.ref a1), .val (.ref a2), .val (.long x), .second, .val (.long y), .second] [])) _
    exact X8.returnOut hx Bd.returns (hb hby d1_20) hr
  · show Q1 Z a1 x y h0 n0 _ T8.heap _
    rw [e8]
    exact ⟨rfl, N8, Kp8, Ee, F1e, F2e⟩
theorem pn_4 : plainName "canonsign/cli/SigningSpeed" = true := by first | (simp [plainName, overriddenIn]; done) | decide +kernel
theorem ef_4 (m : MethodId) (x0 : Addr) : entryFrame m #[(.ref x0)] 1 = mkF m 0 #[.val (.ref x0)] [] := by first | (simp [entryFrame, mkF, argsToLocals, Value.category]; done) | rfl
theorem d4_0 : decode prog_37_method_5_code 0 = .ok (.aload_n 0, 1) := by decide +kernel
theorem d4_1 : decode prog_37_method_5_code 1 = .ok (.getfield 13, 3) := by decide +kernel
theorem d4_4 : decode prog_37_method_5_code 4 = .ok (.l2d, 1) := by decide +kernel
theorem d4_5 : decode prog_37_method_5_code 5 = .ok (.aload_n 0, 1) := by decide +kernel
theorem d4_6 : decode prog_37_method_5_code 6 = .ok (.getfield 17, 3) := by decide +kernel
theorem d4_9 : decode prog_37_method_5_code 9 = .ok (.l2d, 1) := by decide +kernel
theorem d4_10 : decode prog_37_method_5_code 10 = .ok (.ddiv, 1) := by decide +kernel
theorem d4_11 : decode prog_37_method_5_code 11 = .ok (.dreturn, 1) := by decide +kernel
def Q4 (Z : State) (x y : Int64) (h0 : Heap) (n0 : Nat) (v : Option Value) (h : Heap) (L : List Loc) : Prop := v = some (.double (Jvm.FP.Core.ddiv (Jvm.FP.Core.l2d x) (Jvm.FP.Core.l2d y))) ∧ Fr n0 L ∧ h = h0
set_option maxRecDepth 65536 in
set_option maxHeartbeats 40000000 in
theorem rm4 (l : Launch) (Z : State) (a0 : Array Value) (hw : ∀ d ∈ tables_1, d.before a0 Z = true) (ws : List Jvm.Cond) (a1 : Addr) (x : Int64) (y : Int64) (h0 : Heap) (n0 : Nat) (Z0 : n0 ≤ h0.size) (F1 : Fld Z h0 a1 "canonsign/cli/SigningSpeed" "signNanos" "J" (.long x)) (F2 : Fld Z h0 a1 "canonsign/cli/SigningSpeed" "hmacNanos" "J" (.long y)) (hy : y.toInt ≠ 0) :
    MetFree l (⟨"canonsign/cli/SigningSpeed", "ratio", "()D"⟩ : MethodName) (head1 (Jvm.Cond.code (⟨"canonsign/cli/SigningSpeed", "ratio", "()D"⟩ : MethodName) prog_37_method_5_code 1 (some .double) :: ws) ({ frames := 0, cells := 0, slots := 0, locals := 0 } : Room)) (fun aa_ U => aa_ = #[(.ref a1)] ∧ Z.Warmed39 U.vm ∧ U.heap = h0) (fun _ _ _ _ _ => True) (fun _ U o U' => ∃ v_ L_, o = .returned v_ ∧ Q4 Z x y h0 n0 v_ U'.heap L_ ∧ FrameEnd U o U' L_ ({ frames := 0, cells := 0, slots := 0, locals := 0 } : Room).cells ({ frames := 0, cells := 0, slots := 0, locals := 0 } : Room).slots) := by
  refine MetFree.of_bodySF (plainFor_of_name pn_4) hisR ?_
  intro p e s m args below meth c s₁ Bd hml0 hP hK
  obtain ⟨rfl, hZ, hh⟩ := hP
  have hx := Bd.exec
  have hby := Bd.bytes
  have hml : c.maxLocals = 1 := hml0
  have hown : s.vm.findClass "canonsign/cli/SigningSpeed" = some m.cls := findClass_of_methodNamed Bd.named
  have hnm := (name_of_methodNamed Bd.named Bd.method).1
  have X0 : Stand p l e ({ frames := 0, cells := 0, slots := 0, locals := 0 } : Room) s m #[(.ref a1)] below meth c s₁ [] 0 0 := Stand.of_body Bd
  have e0 : s₁.heap = h0 := by rw [← hh, Bd.state]; rfl
  have N0 := Fr.nil n0
  have pre0 : ∀ t, Steps p.tables e below (s₁.setTop (mkF m 0 #[.val (.ref a1)] [])) t → Steps p.tables e below (s₁.setTop (entryFrame m #[(.ref a1)] 1)) t := fun t k_ => castTop (ef_4 m a1) k_
  have pre1 : ∀ t, Steps p.tables e below (s₁.setTop (mkF m 1 #[.val (.ref a1)] [(.ref a1)])) t → Steps p.tables e below _ t := fun t kt => pre0 t (by
    show Steps p.tables e below (s₁.setTop (mkF m 0 #[.val (.ref a1)] [])) _
    refine XS.aloadN X0.here hx rfl (hb hby d4_0) rfl rfl ?_
    exact kt)
  obtain ⟨T2, X2, e2, st2⟩ := getF X0 hx hZ hown (host := "") (Or.inl (hw _ (List.mem_of_getElem? (i := 24) rfl))) Via.refl e0 F1 (g := (mkF m 1 #[.val (.ref a1)] [(.ref a1)])) rfl rfl (hb hby d4_1)
  have pre3 : ∀ t, Steps p.tables e below (T2.setTop (mkF m 6 #[.val (.ref a1)] [(.ref a1), (.double (Jvm.FP.Core.l2d x))])) t → Steps p.tables e below _ t := fun t kt => pre1 t (by
    show Steps p.tables e below (s₁.setTop (mkF m 1 #[.val (.ref a1)] [(.ref a1)])) _
    refine st2 _ ?_
    show Steps p.tables e below (T2.setTop (mkF m 4 #[.val (.ref a1)] [(.long x)])) _
    refine XS.l2dS X2.here hx rfl (hb hby d4_4) rfl rfl ?_
    show Steps p.tables e below (T2.setTop (mkF m 5 #[.val (.ref a1)] [(.double (Jvm.FP.Core.l2d x))])) _
    refine XS.aloadN X2.here hx rfl (hb hby d4_5) rfl rfl ?_
    exact kt)
  obtain ⟨T4, X4, e4, st4⟩ := getF X2 hx hZ hown (host := "") (Or.inl (hw _ (List.mem_of_getElem? (i := 26) rfl))) Via.refl e2 F2 (g := (mkF m 6 #[.val (.ref a1)] [(.ref a1), (.double (Jvm.FP.Core.l2d x))])) rfl rfl (hb hby d4_6)
  obtain ⟨fs, hr, hrun, hended, hW, hsame⟩ := X4.leave (v := some (.double (Jvm.FP.Core.ddiv (Jvm.FP.Core.l2d x) (Jvm.FP.Core.l2d y)))) (fun h => by rw [Bd.returns] at h; cases h)
  refine ⟨_, _, pre3 _ ?_, hrun, hended, _, _, rfl, ?_, ⟨_, rfl⟩, hW, hsame.mono (by decide) (by decide)⟩
  · show Steps p.tables e below (T2.setTop (mkF m 6 #[.val (.ref a1)] [(.ref a1), (.double (Jvm.FP.Core.l2d x))])) _
    refine st4 _ ?_
    show Steps p.tables e below (T4.setTop (mkF m 9 #[.val (.ref a1)] [(.long y), (.double (Jvm.FP.Core.l2d x))])) _
    refine XS.l2dS X4.here hx rfl (hb hby d4_9) rfl rfl ?_
    show Steps p.tables e below (T4.setTop (mkF m 10 #[.val (.ref a1)] [(.double (Jvm.FP.Core.l2d y)), (.double (Jvm.FP.Core.l2d x))])) _
    refine XS.ddivS X4.here hx rfl (hb hby d4_10) rfl (own_nn hy) rfl ?_
    show Steps p.tables e below (T4.setTop (mkF m 11 #[.val (.ref a1)] [(.double (Jvm.FP.Core.ddiv (Jvm.FP.Core.l2d x) (Jvm.FP.Core.l2d y)))])) _
    jvm_step X4.here [X4.here.top, hx, (hb hby d4_11), X4.method', Bd.returns, narrow]
    first | (intro acts; rw [hr _ acts rfl rfl rfl]) | rw [hr _ _ rfl rfl rfl]
    exact Steps.refl _
  · show Q4 Z x y h0 n0 _ T4.heap _
    rw [e4]
    exact ⟨rfl, N0, rfl⟩
theorem ef_5 (m : MethodId) (x0 : Int64) (x1 : Int64) : entryFrame m #[(.long x0), (.long x1)] 4 = mkF m 0 #[.val (.long x0), .second, .val (.long x1), .second] [] := by first | (simp [entryFrame, mkF, argsToLocals, Value.category]; done) | rfl
theorem d5_0 : decode jdk_29_method_70_code 0 = .ok (.lload_n 0, 1) := by decide +kernel
theorem d5_1 : decode jdk_29_method_70_code 1 = .ok (.lload_n 2, 1) := by decide +kernel
theorem d5_2 : decode jdk_29_method_70_code 2 = .ok (.lcmp, 1) := by decide +kernel
theorem d5_3 : decode jdk_29_method_70_code 3 = .ok (.ifCond .gt 7, 3) := by decide +kernel
theorem d5_10 : decode jdk_29_method_70_code 10 = .ok (.lload_n 2, 1) := by decide +kernel
theorem d5_11 : decode jdk_29_method_70_code 11 = .ok (.lreturn, 1) := by decide +kernel
theorem d5_6 : decode jdk_29_method_70_code 6 = .ok (.lload_n 0, 1) := by decide +kernel
theorem d5_7 : decode jdk_29_method_70_code 7 = .ok (.goto 4, 3) := by decide +kernel
def own_min (q1 : Int64) (q2 : Int64) : Int64 := if (0 : Int32) < (lcmpW q1 q2) then (q2) else (q1)
def Q5 (Z : State) (q1 : Int64) (q2 : Int64) (h0 : Heap) (n0 : Nat) (v : Option Value) (h : Heap) (L : List Loc) : Prop := v = some (.long (own_min q1 q2)) ∧ Fr n0 L ∧ h = h0
set_option maxRecDepth 65536 in
set_option maxHeartbeats 40000000 in
theorem rm5 (l : Launch) (Z : State) (a0 : Array Value) (hw : ∀ d ∈ tables_1, d.before a0 Z = true) (ws : List Jvm.Cond) (q1 : Int64) (q2 : Int64) (h0 : Heap) (n0 : Nat) (Z0 : n0 ≤ h0.size) :
    MetFree l (⟨"java/lang/Math", "min", "(JJ)J"⟩ : MethodName) (head1 (Jvm.Cond.code (⟨"java/lang/Math", "min", "(JJ)J"⟩ : MethodName) jdk_29_method_70_code 4 (some .long) :: ws) ({ frames := 0, cells := 0, slots := 0, locals := 0 } : Room)) (fun aa_ U => aa_ = #[(.long q1), (.long q2)] ∧ Z.Warmed39 U.vm ∧ U.heap = h0) (fun _ _ _ _ _ => True) (fun _ U o U' => ∃ v_ L_, o = .returned v_ ∧ Q5 Z q1 q2 h0 n0 v_ U'.heap L_ ∧ FrameEnd U o U' L_ ({ frames := 0, cells := 0, slots := 0, locals := 0 } : Room).cells ({ frames := 0, cells := 0, slots := 0, locals := 0 } : Room).slots) := by
  refine MetFree.of_bodySF (Jvm.Free.JP.mathPlain rfl (by decide +kernel)) hisR ?_
  intro p e s m args below meth c s₁ Bd hml0 hP hK
  obtain ⟨rfl, hZ, hh⟩ := hP
  have hx := Bd.exec
  have hby := Bd.bytes
  have hml : c.maxLocals = 4 := hml0
  have hown : s.vm.findClass "java/lang/Math" = some m.cls := findClass_of_methodNamed Bd.named
  have hnm := (name_of_methodNamed Bd.named Bd.method).1
  have X0 : Stand p l e ({ frames := 0, cells := 0, slots := 0, locals := 0 } : Room) s m #[(.long q1), (.long q2)] below meth c s₁ [] 0 0 := Stand.of_body Bd
  have e0 : s₁.heap = h0 := by rw [← hh, Bd.state]; rfl
  have N0 := Fr.nil n0
  have pre0 : ∀ t, Steps p.tables e below (s₁.setTop (mkF m 0 #[.val (.long q1), .second, .val (.long q2), .second] [])) t → Steps p.tables e below (s₁.setTop (entryFrame m #[(.long q1), (.long q2)] 4)) t := fun t k_ => castTop (ef_5 m q1 q2) k_
  have pre1 : ∀ t, Steps p.tables e below (s₁.setTop (mkF m 3 #[.val (.long q1), .second, .val (.long q2), .second] [(.int (lcmpW q1 q2))])) t → Steps p.tables e below _ t := fun t kt => pre0 t (by
    show Steps p.tables e below (s₁.setTop (mkF m 0 #[.val (.long q1), .second, .val (.long q2), .second] [])) _
    refine XS.lloadN X0.here hx rfl (hb hby d5_0) rfl ?_
    show Steps p.tables e below (s₁.setTop (mkF m 1 #[.val (.long q1), .second, .val (.long q2), .second] [(.long q1)])) _
    refine XS.lloadN X0.here hx rfl (hb hby d5_1) rfl ?_
    show Steps p.tables e below (s₁.setTop (mkF m 2 #[.val (.long q1), .second, .val (.long q2), .second] [(.long q2), (.long q1)])) _
    refine XS.lcmp X0.here hx rfl (hb hby d5_2) rfl ?_
    exact kt)
  by_cases hc3 : (0 : Int32) < (lcmpW q1 q2)
  · obtain ⟨fs, hr, hrun, hended, hW, hsame⟩ := X0.leave (v := some (.long q2)) (fun h => by rw [Bd.returns] at h; cases h)
    refine ⟨_, _, pre1 _ ?_, hrun, hended, _, _, rfl, ?_, ⟨_, rfl⟩, hW, hsame.mono (by decide) (by decide)⟩
    · show Steps p.tables e below (s₁.setTop (mkF m 3 #[.val (.long q1), .second, .val (.long q2), .second] [(.int (lcmpW q1 q2))])) _
      refine XS.ifYes X0.here hx rfl (pc0 := 3) (pc' := 10) rfl (hb hby d5_3) rfl ((if0 _ _).trans (tlt hc3).2.2.1) (by decide) (by decide) ?_
      show Steps p.tables e below (s₁.setTop (mkF m 10 #[.val (.long q1), .second, .val (.long q2), .second] [])) _
      refine XS.lloadN X0.here hx rfl (hb hby d5_10) rfl ?_
      show Steps p.tables e below (s₁.setTop (mkF m 11 #[.val (.long q1), .second, .val (.long q2), .second] [(.long q2)])) _
      jvm_step X0.here [X0.here.top, hx, (hb hby d5_11), X0.method', Bd.returns, narrow]
      first | (intro acts; rw [hr _ acts rfl rfl rfl]) | rw [hr _ _ rfl rfl rfl]
      exact Steps.refl _
    · show Q5 Z q1 q2 h0 n0 _ s₁.heap _
      rw [e0]
      exact ⟨by simp only [own_min, if_pos hc3], N0, rfl⟩
  · obtain ⟨fs, hr, hrun, hended, hW, hsame⟩ := X0.leave (v := some (.long q1)) (fun h => by rw [Bd.returns] at h; cases h)
    refine ⟨_, _, pre1 _ ?_, hrun, hended, _, _, rfl, ?_, ⟨_, rfl⟩, hW, hsame.mono (by decide) (by decide)⟩
    · show Steps p.tables e below (s₁.setTop (mkF m 3 #[.val (.long q1), .second, .val (.long q2), .second] [(.int (lcmpW q1 q2))])) _
      refine XS.ifNo X0.here hx rfl (hb hby d5_3) rfl ((if0 _ _).trans (flt hc3).2.2.1) ?_
      show Steps p.tables e below (s₁.setTop (mkF m 6 #[.val (.long q1), .second, .val (.long q2), .second] [])) _
      refine XS.lloadN X0.here hx rfl (hb hby d5_6) rfl ?_
      show Steps p.tables e below (s₁.setTop (mkF m 7 #[.val (.long q1), .second, .val (.long q2), .second] [(.long q1)])) _
      refine XS.goto X0.here hx rfl (pc0 := 7) (pc' := 11) rfl (hb hby d5_7) (by decide) (by decide) ?_
      show Steps p.tables e below (s₁.setTop (mkF m 11 #[.val (.long q1), .second, .val (.long q2), .second] [(.long q1)])) _
      jvm_step X0.here [X0.here.top, hx, (hb hby d5_11), X0.method', Bd.returns, narrow]
      first | (intro acts; rw [hr _ acts rfl rfl rfl]) | rw [hr _ _ rfl rfl rfl]
      exact Steps.refl _
    · show Q5 Z q1 q2 h0 n0 _ s₁.heap _
      rw [e0]
      exact ⟨by simp only [own_min, if_neg hc3], N0, rfl⟩
theorem ef_6 (m : MethodId) (x0 : Int64) (x1 : Int64) : entryFrame m #[(.long x0), (.long x1)] 4 = mkF m 0 #[.val (.long x0), .second, .val (.long x1), .second] [] := by first | (simp [entryFrame, mkF, argsToLocals, Value.category]; done) | rfl
theorem d6_0 : decode jdk_29_method_66_code 0 = .ok (.lload_n 0, 1) := by decide +kernel
theorem d6_1 : decode jdk_29_method_66_code 1 = .ok (.lload_n 2, 1) := by decide +kernel
theorem d6_2 : decode jdk_29_method_66_code 2 = .ok (.lcmp, 1) := by decide +kernel
theorem d6_3 : decode jdk_29_method_66_code 3 = .ok (.ifCond .lt 7, 3) := by decide +kernel
theorem d6_10 : decode jdk_29_method_66_code 10 = .ok (.lload_n 2, 1) := by decide +kernel
theorem d6_11 : decode jdk_29_method_66_code 11 = .ok (.lreturn, 1) := by decide +kernel
theorem d6_6 : decode jdk_29_method_66_code 6 = .ok (.lload_n 0, 1) := by decide +kernel
theorem d6_7 : decode jdk_29_method_66_code 7 = .ok (.goto 4, 3) := by decide +kernel
def own_max (q1 : Int64) (q2 : Int64) : Int64 := if (lcmpW q1 q2) < (0 : Int32) then (q2) else (q1)
def Q6 (Z : State) (q1 : Int64) (q2 : Int64) (h0 : Heap) (n0 : Nat) (v : Option Value) (h : Heap) (L : List Loc) : Prop := v = some (.long (own_max q1 q2)) ∧ Fr n0 L ∧ h = h0
set_option maxRecDepth 65536 in
set_option maxHeartbeats 40000000 in
theorem rm6 (l : Launch) (Z : State) (a0 : Array Value) (hw : ∀ d ∈ tables_1, d.before a0 Z = true) (ws : List Jvm.Cond) (q1 : Int64) (q2 : Int64) (h0 : Heap) (n0 : Nat) (Z0 : n0 ≤ h0.size) :
    MetFree l (⟨"java/lang/Math", "max", "(JJ)J"⟩ : MethodName) (head1 (Jvm.Cond.code (⟨"java/lang/Math", "max", "(JJ)J"⟩ : MethodName) jdk_29_method_66_code 4 (some .long) :: ws) ({ frames := 0, cells := 0, slots := 0, locals := 0 } : Room)) (fun aa_ U => aa_ = #[(.long q1), (.long q2)] ∧ Z.Warmed39 U.vm ∧ U.heap = h0) (fun _ _ _ _ _ => True) (fun _ U o U' => ∃ v_ L_, o = .returned v_ ∧ Q6 Z q1 q2 h0 n0 v_ U'.heap L_ ∧ FrameEnd U o U' L_ ({ frames := 0, cells := 0, slots := 0, locals := 0 } : Room).cells ({ frames := 0, cells := 0, slots := 0, locals := 0 } : Room).slots) := by
  refine MetFree.of_bodySF (Jvm.Free.JP.mathPlain rfl (by decide +kernel)) hisR ?_
  intro p e s m args below meth c s₁ Bd hml0 hP hK
  obtain ⟨rfl, hZ, hh⟩ := hP
  have hx := Bd.exec
  have hby := Bd.bytes
  have hml : c.maxLocals = 4 := hml0
  have hown : s.vm.findClass "java/lang/Math" = some m.cls := findClass_of_methodNamed Bd.named
  have hnm := (name_of_methodNamed Bd.named Bd.method).1
  have X0 : Stand p l e ({ frames := 0, cells := 0, slots := 0, locals := 0 } : Room) s m #[(.long q1), (.long q2)] below meth c s₁ [] 0 0 := Stand.of_body Bd
  have e0 : s₁.heap = h0 := by rw [← hh, Bd.state]; rfl
  have N0 := Fr.nil n0
  have pre0 : ∀ t, Steps p.tables e below (s₁.setTop (mkF m 0 #[.val (.long q1), .second, .val (.long q2), .second] [])) t → Steps p.tables e below (s₁.setTop (entryFrame m #[(.long q1), (.long q2)] 4)) t := fun t k_ => castTop (ef_6 m q1 q2) k_
  have pre1 : ∀ t, Steps p.tables e below (s₁.setTop (mkF m 3 #[.val (.long q1), .second, .val (.long q2), .second] [(.int (lcmpW q1 q2))])) t → Steps p.tables e below _ t := fun t kt => pre0 t (by
    show Steps p.tables e below (s₁.setTop (mkF m 0 #[.val (.long q1), .second, .val (.long q2), .second] [])) _
    refine XS.lloadN X0.here hx rfl (hb hby d6_0) rfl ?_
    show Steps p.tables e below (s₁.setTop (mkF m 1 #[.val (.long q1), .second, .val (.long q2), .second] [(.long q1)])) _
    refine XS.lloadN X0.here hx rfl (hb hby d6_1) rfl ?_
    show Steps p.tables e below (s₁.setTop (mkF m 2 #[.val (.long q1), .second, .val (.long q2), .second] [(.long q2), (.long q1)])) _
    refine XS.lcmp X0.here hx rfl (hb hby d6_2) rfl ?_
    exact kt)
  by_cases hc3 : (lcmpW q1 q2) < (0 : Int32)
  · obtain ⟨fs, hr, hrun, hended, hW, hsame⟩ := X0.leave (v := some (.long q2)) (fun h => by rw [Bd.returns] at h; cases h)
    refine ⟨_, _, pre1 _ ?_, hrun, hended, _, _, rfl, ?_, ⟨_, rfl⟩, hW, hsame.mono (by decide) (by decide)⟩
    · show Steps p.tables e below (s₁.setTop (mkF m 3 #[.val (.long q1), .second, .val (.long q2), .second] [(.int (lcmpW q1 q2))])) _
      refine XS.ifYes X0.here hx rfl (pc0 := 3) (pc' := 10) rfl (hb hby d6_3) rfl ((if0 _ _).trans (tlt hc3).1) (by decide) (by decide) ?_
      show Steps p.tables e below (s₁.setTop (mkF m 10 #[.val (.long q1), .second, .val (.long q2), .second] [])) _
      refine XS.lloadN X0.here hx rfl (hb hby d6_10) rfl ?_
      show Steps p.tables e below (s₁.setTop (mkF m 11 #[.val (.long q1), .second, .val (.long q2), .second] [(.long q2)])) _
      jvm_step X0.here [X0.here.top, hx, (hb hby d6_11), X0.method', Bd.returns, narrow]
      first | (intro acts; rw [hr _ acts rfl rfl rfl]) | rw [hr _ _ rfl rfl rfl]
      exact Steps.refl _
    · show Q6 Z q1 q2 h0 n0 _ s₁.heap _
      rw [e0]
      exact ⟨by simp only [own_max, if_pos hc3], N0, rfl⟩
  · obtain ⟨fs, hr, hrun, hended, hW, hsame⟩ := X0.leave (v := some (.long q1)) (fun h => by rw [Bd.returns] at h; cases h)
    refine ⟨_, _, pre1 _ ?_, hrun, hended, _, _, rfl, ?_, ⟨_, rfl⟩, hW, hsame.mono (by decide) (by decide)⟩
    · show Steps p.tables e below (s₁.setTop (mkF m 3 #[.val (.long q1), .second, .val (.long q2), .second] [(.int (lcmpW q1 q2))])) _
      refine XS.ifNo X0.here hx rfl (hb hby d6_3) rfl ((if0 _ _).trans (flt hc3).1) ?_
      show Steps p.tables e below (s₁.setTop (mkF m 6 #[.val (.long q1), .second, .val (.long q2), .second] [])) _
      refine XS.lloadN X0.here hx rfl (hb hby d6_6) rfl ?_
      show Steps p.tables e below (s₁.setTop (mkF m 7 #[.val (.long q1), .second, .val (.long q2), .second] [(.long q1)])) _
      refine XS.goto X0.here hx rfl (pc0 := 7) (pc' := 11) rfl (hb hby d6_7) (by decide) (by decide) ?_
      show Steps p.tables e below (s₁.setTop (mkF m 11 #[.val (.long q1), .second, .val (.long q2), .second] [(.long q1)])) _
      jvm_step X0.here [X0.here.top, hx, (hb hby d6_11), X0.method', Bd.returns, narrow]
      first | (intro acts; rw [hr _ acts rfl rfl rfl]) | rw [hr _ _ rfl rfl rfl]
      exact Steps.refl _
    · show Q6 Z q1 q2 h0 n0 _ s₁.heap _
      rw [e0]
      exact ⟨by simp only [own_max, if_neg hc3], N0, rfl⟩

theorem own_minmax (a b : Int64) : (own_min a b).toInt ≤ (own_max a b).toInt := by
  unfold own_min own_max
  simp only [lcmpW, Int64.lt_iff_toInt_lt, gt_iff_lt, ← Int64.toInt_inj]
  have k1 : (1 : Int32).toInt = 1 := by decide
  have k0 : (0 : Int32).toInt = 0 := by decide
  have km : (-1 : Int32).toInt = -1 := by decide
  by_cases h1 : b.toInt < a.toInt
  · simp only [if_pos h1]
    simp <;> omega
  · simp only [if_neg h1]
    by_cases h2 : a.toInt = b.toInt
    · simp only [if_pos h2]
      simp <;> omega
    · simp only [if_neg h2]
      simp <;> omega
theorem own_shr6 (x : Int32) : ((x >>> ((6 : Int32) &&& 31)).toInt64).toInt.natAbs ≤ 33554432 := by
  have h : (x >>> ((6 : Int32) &&& 31)).toInt = x.toInt / 2 ^ 6 := Jvm.Kit.i32_shr x _ (k := 6) (by decide)
  have h2 := x.toInt_lt
  have h3 := x.le_toInt
  rw [Int32.toInt_toInt64, h]
  omega
theorem own_yb (y : Int64) (h : y.toInt.natAbs ≤ 33554432) : (if lcmpW y (0 : Int64) = (0 : Int32) then (1 : Int64) else y).toInt ≠ 0 ∧ (if lcmpW y (0 : Int64) = (0 : Int32) then (1 : Int64) else y).toInt.natAbs ≤ 33554432 := by
  by_cases h0 : y = 0
  · subst h0; decide
  · have hn : y.toInt ≠ 0 := fun q => h0 (Int64.toInt_inj.mp (by rw [q]; rfl))
    have : ¬ (lcmpW y (0 : Int64) = (0 : Int32)) := by
      simp only [lcmpW, h0]
      split <;> decide
    rw [if_neg this]; exact ⟨hn, h⟩
theorem own_pmul {x y : Int64} (hx : x.toInt.natAbs ≤ 33554432) (hy : y.toInt.natAbs ≤ 33554432) : (x * y).toInt = x.toInt * y.toInt ∧ (x * y).toInt.natAbs < 2 ^ 53 := by
  have h : (x.toInt * y.toInt).natAbs ≤ 33554432 * 33554432 := by rw [Int.natAbs_mul]; exact Nat.mul_le_mul hx hy
  have e : (x * y).toInt = x.toInt * y.toInt := Jvm.Kit.i64_mul (by omega) (by omega)
  exact ⟨e, by rw [e]; omega⟩
theorem own_odd (z : Int32) : (((2 : Int64) * z.toInt64) + (1 : Int64)).toInt = 2 * z.toInt + 1 := by
  have h2 := z.toInt_lt
  have h3 := z.le_toInt
  have k2 : (2 : Int64).toInt = 2 := by decide
  have k1 : (1 : Int64).toInt = 1 := by decide
  have e : ((2 : Int64) * z.toInt64).toInt = 2 * z.toInt := by rw [Jvm.Kit.i64_mul (by rw [k2, Int32.toInt_toInt64]; omega) (by rw [k2, Int32.toInt_toInt64]; omega), k2, Int32.toInt_toInt64]
  rw [Jvm.Kit.i64_add (by rw [e, k1]; omega) (by rw [e, k1]; omega), e, k1]
theorem own_cle {o : Option Ordering} {op : CmpOp} (h : o = some .lt ∨ o = some .eq) : ¬ ((0 : Int32) < cmpValue o op) := by rcases h with rfl | rfl <;> cases op <;> decide
theorem own_lopos {a : Int64} (h : (0 : Int32) < lcmpW a (0 : Int64)) : 0 < a.toInt := by
  have k0 : (0 : Int64).toInt = 0 := by decide
  by_cases h1 : a > 0
  · have := Int64.lt_iff_toInt_lt.mp h1; omega
  · exfalso
    simp only [lcmpW, h1, if_false] at h
    split at h <;> exact absurd h (by decide)
theorem pn_0 : plainName "canonsign/cli/SigningSpeedRatioPinLaw" = true := by first | (simp [plainName, overriddenIn]; done) | decide +kernel
theorem ef_0 (m : MethodId) (x0 : Int64) (x1 : Int64) (x2 : Int32) (x3 : Int32) (x4 : Int32) : entryFrame m #[(.long x0), (.long x1), (.int x2), (.int x3), (.int x4)] maxLocals = mkF m 0 #[.val (.long x0), .second, .val (.long x1), .second, .val (.int x2), .val (.int x3), .val (.int x4), .unset, .unset, .unset, .unset, .unset, .unset, .unset, .unset, .unset, .unset, .unset, .unset, .unset, .unset, .unset, .unset, .unset, .unset, .unset, .unset] [] := by first | (simp [entryFrame, mkF, argsToLocals, Value.category, maxLocals]; done) | rfl
theorem pd_1 : parseMethodDescriptor "(Ljava/lang/String;JJ)V" = some ⟨[(.object "java/lang/String"), .long, .long], none⟩ := by decide +kernel
theorem pd_2 : parseMethodDescriptor "()D" = some ⟨[], some .double⟩ := by decide +kernel
theorem pd_3 : parseMethodDescriptor "(JJ)J" = some ⟨[.long, .long], some .long⟩ := by decide +kernel
def Q0 (Z : State) (h0 : Heap) (n0 : Nat) (v : Option Value) (h : Heap) (L : List Loc) : Prop := v = some (.int (1 : Int32)) ∧ Fr n0 L
set_option maxRecDepth 65536 in
set_option maxHeartbeats 40000000 in
theorem rm0 (l : Launch) (Z : State) (a0 : Array Value) (hw : ∀ d ∈ tables_1, d.before a0 Z = true) (ws : List Jvm.Cond) (q1 : Int64) (q2 : Int64) (p3 : Int32) (p4 : Int32) (p5 : Int32) (h0 : Heap) (n0 : Nat) (Z0 : n0 ≤ h0.size) :
    MetFree l x (head1 (Jvm.Cond.code x code maxLocals ret :: ws) room_1) (fun aa_ U => aa_ = #[(.long q1), (.long q2), (.int p3), (.int p4), (.int p5)] ∧ Z.Warmed39 U.vm ∧ U.heap = h0) (fun _ _ _ _ _ => True) (fun _ U o U' => ∃ v_ L_, o = .returned v_ ∧ Q0 Z  h0 n0 v_ U'.heap L_ ∧ ReturnedEndW U o U' L_ room_1.cells room_1.slots) := by
  refine MetFree.of_bodySF (plainFor_of_name pn_0) hisR ?_
  intro p e s m args below meth c s₁ Bd hml0 hP hK
  obtain ⟨rfl, hZ, hh⟩ := hP
  have hx := Bd.exec
  have hby := Bd.bytes
  have hml : c.maxLocals = 27 := hml0
  have hown : s.vm.findClass "canonsign/cli/SigningSpeedRatioPinLaw" = some m.cls := findClass_of_methodNamed Bd.named
  have hnm := (name_of_methodNamed Bd.named Bd.method).1
  have X0 : Stand p l e room_1 s m #[(.long q1), (.long q2), (.int p3), (.int p4), (.int p5)] below meth c s₁ [] 0 0 := Stand.of_body Bd
  have e0 : s₁.heap = h0 := by rw [← hh, Bd.state]; rfl
  have N0 := Fr.nil n0
  have pre0 : ∀ t, Steps p.tables e below (s₁.setTop (mkF m 0 #[.val (.long q1), .second, .val (.long q2), .second, .val (.int p3), .val (.int p4), .val (.int p5), .unset, .unset, .unset, .unset, .unset, .unset, .unset, .unset, .unset, .unset, .unset, .unset, .unset, .unset, .unset, .unset, .unset, .unset, .unset, .unset] [])) t → Steps p.tables e below (s₁.setTop (entryFrame m #[(.long q1), (.long q2), (.int p3), (.int p4), (.int p5)] maxLocals)) t := fun t k_ => castTop (ef_0 m q1 q2 p3 p4 p5) k_
  obtain ⟨T1, h1, X1, e1, E1, A1, D1, -, st1⟩ := newO X0 hx hZ hown (hw _ (List.mem_of_getElem? (i := 0) rfl)) (hw _ (List.mem_of_getElem? (i := 1) rfl)) (hw _ (List.mem_of_getElem? (i := 2) rfl)) e0 (g := (mkF m 0 #[.val (.long q1), .second, .val (.long q2), .second, .val (.int p3), .val (.int p4), .val (.int p5), .unset, .unset, .unset, .unset, .unset, .unset, .unset, .unset, .unset, .unset, .unset, .unset, .unset, .unset, .unset, .unset, .unset, .unset, .unset, .unset] [])) rfl (hb hby at_0) (by decide) (by decide)
  obtain ⟨b1, gb1⟩ : ∃ z, z = h0.size := ⟨_, rfl⟩
  rw [← gb1] at A1 D1 st1
  have g_b1 : n0 ≤ b1 := Nat.le_trans Z0 (Nat.le_of_eq gb1.symm)
  have Zs1 : n0 ≤ h1.size := Nat.le_trans Z0 E1.1
  have sz_b1 : h0.size ≤ b1 := Nat.le_trans (Keep.refl h0 []).1 (Nat.le_of_eq gb1.symm)
  have Kp1 : Keep h0 h1 [] := (Keep.refl h0 []).ext E1
  have EaA := A1
  have FsA : Fld Z h1 b1 "canonsign/cli/SigningSpeed" "signature" "Ljava/lang/String;" .null := D1 (Or.inr (hw _ (List.mem_of_getElem? (i := 23) rfl))) (ty := (.object "java/lang/String")) (by decide)
  have F1A : Fld Z h1 b1 "canonsign/cli/SigningSpeed" "signNanos" "J" (.long 0) := D1 (Or.inr (hw _ (List.mem_of_getElem? (i := 25) rfl))) (ty := .long) (by decide)
  have F2A : Fld Z h1 b1 "canonsign/cli/SigningSpeed" "hmacNanos" "J" (.long 0) := D1 (Or.inr (hw _ (List.mem_of_getElem? (i := 27) rfl))) (ty := .long) (by decide)
  have pre2 : ∀ t, Steps p.tables e below (T1.setTop (mkF m 4 #[.val (.long q1), .second, .val (.long q2), .second, .val (.int p3), .val (.int p4), .val (.int p5), .unset, .unset, .unset, .unset, .unset, .unset, .unset, .unset, .unset, .unset, .unset, .unset, .unset, .unset, .unset, .unset, .unset, .unset, .unset, .unset] [(.ref b1), (.ref b1)])) t → Steps p.tables e below _ t := fun t kt => pre0 t (by
    show Steps p.tables e below (s₁.setTop (mkF m 0 #[.val (.long q1), .second, .val (.long q2), .second, .val (.int p3), .val (.int p4), .val (.int p5), .unset, .unset, .unset, .unset, .unset, .unset, .unset, .unset, .unset, .unset, .unset, .unset, .unset, .unset, .unset, .unset, .unset, .unset, .unset, .unset] [])) _
    refine st1 _ ?_
    show Steps p.tables e below (T1.setTop (mkF m 3 #[.val (.long q1), .second, .val (.long q2), .second, .val (.int p3), .val (.int p4), .val (.int p5), .unset, .unset, .unset, .unset, .unset, .unset, .unset, .unset, .unset, .unset, .unset, .unset, .unset, .unset, .unset, .unset, .unset, .unset, .unset, .unset] [(.ref b1)])) _
    refine XS.dup X1.here hx rfl (hb hby at_3) rfl rfl ?_
    exact kt)
  have wS : ∀ a ∈ Bundle.stringAtoms, a.before a0 Z = true := fun d hd => by
    simp only [Bundle.stringAtoms, List.mem_cons, List.not_mem_nil, or_false] at hd
    rcases hd with rfl | rfl | rfl | rfl | rfl | rfl | rfl
    · exact (hw _ (List.mem_of_getElem? (i := 4) rfl))
    · exact (hw _ (List.mem_of_getElem? (i := 5) rfl))
    · exact (hw _ (List.mem_of_getElem? (i := 6) rfl))
    · exact (hw _ (List.mem_of_getElem? (i := 7) rfl))
    · exact (hw _ (List.mem_of_getElem? (i := 8) rfl))
    · exact (hw _ (List.mem_of_getElem? (i := 9) rfl))
    · exact (hw _ (List.mem_of_getElem? (i := 10) rfl))
  obtain ⟨as3, T3, h3, ks3, X3, e3, E3, Si3, hk3, hz3, how3, st3⟩ := ldcS (s := s) (vm0 := s.vm) (show Stand p l e room_1 (s.setVm s.vm) m #[(.long q1), (.long q2), (.int p3), (.int p4), (.int p5)] below meth c T1 _ _ _ from X1) hx hZ hown (hw _ (List.mem_of_getElem? (i := 3) rfl)) wS e1 (State.WarmedH.since (State.WarmedH.refl s) 0) (Nat.zero_le _) (g := (mkF m 4 #[.val (.long q1), .second, .val (.long q2), .second, .val (.int p3), .val (.int p4), .val (.int p5), .unset, .unset, .unset, .unset, .unset, .unset, .unset, .unset, .unset, .unset, .unset, .unset, .unset, .unset, .unset, .unset, .unset, .unset, .unset, .unset] [(.ref b1), (.ref b1)])) rfl (hb hby at_4) (n := 0) (by decide) (by decide) (by decide) (by decide)
  have Zs3 : n0 ≤ h3.size := Nat.le_trans Zs1 E3.1
  have Kp3 : Keep h0 h3 [] := Kp1.ext E3
  have EaAx := EaA.ext E3
  have FsAx := FsA.ext E3
  have F1Ax := F1A.ext E3
  have F2Ax := F2A.ext E3
  have pre4 : ∀ t, Steps p.tables e below (T3.setTop (mkF m 8 #[.val (.long q1), .second, .val (.long q2), .second, .val (.int p3), .val (.int p4), .val (.int p5), .unset, .unset, .unset, .unset, .unset, .unset, .unset, .unset, .unset, .unset, .unset, .unset, .unset, .unset, .unset, .unset, .unset, .unset, .unset, .unset] [(.long (1 : Int64)), (.long q1), (.ref as3), (.ref b1), (.ref b1)])) t → Steps p.tables e below _ t := fun t kt => pre2 t (by
    show Steps p.tables e below (T1.setTop (mkF m 4 #[.val (.long q1), .second, .val (.long q2), .second, .val (.int p3), .val (.int p4), .val (.int p5), .unset, .unset, .unset, .unset, .unset, .unset, .unset, .unset, .unset, .unset, .unset, .unset, .unset, .unset, .unset, .unset, .unset, .unset, .unset, .unset] [(.ref b1), (.ref b1)])) _
    refine st3 _ ?_
    show Steps p.tables e below (T3.setTop (mkF m 6 #[.val (.long q1), .second, .val (.long q2), .second, .val (.int p3), .val (.int p4), .val (.int p5), .unset, .unset, .unset, .unset, .unset, .unset, .unset, .unset, .unset, .unset, .unset, .unset, .unset, .unset, .unset, .unset, .unset, .unset, .unset, .unset] [(.ref as3), (.ref b1), (.ref b1)])) _
    refine XS.lloadN X3.here hx rfl (hb hby at_6) rfl ?_
    show Steps p.tables e below (T3.setTop (mkF m 7 #[.val (.long q1), .second, .val (.long q2), .second, .val (.int p3), .val (.int p4), .val (.int p5), .unset, .unset, .unset, .unset, .unset, .unset, .unset, .unset, .unset, .unset, .unset, .unset, .unset, .unset, .unset, .unset, .unset, .unset, .unset, .unset] [(.long q1), (.ref as3), (.ref b1), (.ref b1)])) _
    refine XS.lconst X3.here hx rfl (hb hby at_7) ?_
    exact kt)
  obtain ⟨_, _, ⟨T5, L5, k5, n5⟩, -, X5, ⟨Lc5, hQ5, l5, y5, z5⟩, st5⟩ := X3.specialBack hx (y := (⟨"canonsign/cli/SigningSpeed", "<init>", "(Ljava/lang/String;JJ)V"⟩ : MethodName)) rfl how3 (mvT hz3 (hw _ (List.mem_of_getElem? (i := 11) rfl))) (mvT hz3 (hw _ (List.mem_of_getElem? (i := 12) rfl))) (mvT hz3 (hw _ (List.mem_of_getElem? (i := 13) rfl))) (by decide) (backOf (W := 1) (rm1 l Z a0 hw [] b1 as3 q1 (1 : Int64) h3 n0 Zs3 EaAx FsAx F1Ax F2Ax g_b1) hz3 (hw _ (List.mem_of_getElem? (i := 13) rfl)) (hw _ (List.mem_of_getElem? (i := 2) rfl)) (by decide) (by decide)) (g := (mkF m 8 #[.val (.long q1), .second, .val (.long q2), .second, .val (.int p3), .val (.int p4), .val (.int p5), .unset, .unset, .unset, .unset, .unset, .unset, .unset, .unset, .unset, .unset, .unset, .unset, .unset, .unset, .unset, .unset, .unset, .unset, .unset, .unset] [(.long (1 : Int64)), (.long q1), (.ref as3), (.ref b1), (.ref b1)])) rfl (by rw [hml]; rfl) (Steps.refl _) (a := b1) (argsL := [(.ref as3), (.long q1), (.long (1 : Int64))]) (rest := [(.ref b1)]) (lenOf pd_1 rfl) rfl (by show 2 * 0 + _ ≤ _; exact Nat.le_of_eq rfl) (hb hby at_8) (fun _ _ => ⟨rfl, e3, (by decide : 3 + 0 ≤ _), (by decide : 7 + 0 ≤ _)⟩)
  dsimp only [Pt.U, Pt.locs, Pt.cells, Pt.slots] at X5 l5 y5 z5 st5 hQ5
  subst l5 y5 z5
  obtain ⟨rfl, N5q, KcA, EcA, FxA, FyA⟩ := hQ5
  have N5 := Fr.app N0 N5q
  have ZcA : n0 ≤ T5.heap.size := Nat.le_trans Zs3 KcA.1
  have kcA : ks3 ≤ T5.heap.size := Nat.le_trans hk3 KcA.1
  have pre6 : ∀ t, Steps p.tables e below (T5.setTop (mkF m 11 #[.val (.long q1), .second, .val (.long q2), .second, .val (.int p3), .val (.int p4), .val (.int p5), .unset, .unset, .unset, .unset, .unset, .unset, .unset, .unset, .unset, .unset, .unset, .unset, .unset, .unset, .unset, .unset, .unset, .unset, .unset, .unset] [(.ref b1)])) t → Steps p.tables e below _ t := fun t kt => pre4 t (by
    show Steps p.tables e below (T3.setTop (mkF m 8 #[.val (.long q1), .second, .val (.long q2), .second, .val (.int p3), .val (.int p4), .val (.int p5), .unset, .unset, .unset, .unset, .unset, .unset, .unset, .unset, .unset, .unset, .unset, .unset, .unset, .unset, .unset, .unset, .unset, .unset, .unset, .unset] [(.long (1 : Int64)), (.long q1), (.ref as3), (.ref b1), (.ref b1)])) _
    refine st5.trans ?_
    exact kt)
  obtain ⟨cq7, kq7, q7a, q7b, q7c⟩ := isOf hz3 rfl EcA
  obtain ⟨_, _, ⟨T7, L7, k7, n7⟩, -, X7, ⟨Lc7, hQ7, l7, y7, z7⟩, st7⟩ := X5.virtualBack hx (y := (⟨"canonsign/cli/SigningSpeed", "ratio", "()D"⟩ : MethodName)) (z := (⟨"canonsign/cli/SigningSpeed", "ratio", "()D"⟩ : MethodName)) how3 (mvT hz3 (hw _ (List.mem_of_getElem? (i := 28) rfl))) (mvT hz3 (hw _ (List.mem_of_getElem? (i := 29) rfl))) (notFace_of_selects (args := #[]) (mvT hz3 (hw _ (List.mem_of_getElem? (i := 31) rfl)))) (mvT hz3 (hw _ (List.mem_of_getElem? (i := 31) rfl))) (mvT hz3 (hw _ (List.mem_of_getElem? (i := 30) rfl))) (by decide) (backOf (W := 0) (rm4 l Z a0 hw [] b1 q1 (1 : Int64) T5.heap n0 ZcA FxA FyA (by decide)) hz3 (hw _ (List.mem_of_getElem? (i := 32) rfl)) (hw _ (List.mem_of_getElem? (i := 2) rfl)) (by decide) (by decide)) q7a q7c (g := (mkF m 11 #[.val (.long q1), .second, .val (.long q2), .second, .val (.int p3), .val (.int p4), .val (.int p5), .unset, .unset, .unset, .unset, .unset, .unset, .unset, .unset, .unset, .unset, .unset, .unset, .unset, .unset, .unset, .unset, .unset, .unset, .unset, .unset] [(.ref b1)])) rfl (by rw [hml]; rfl) (Steps.refl _) (argsL := []) (rest := []) (lenOf pd_2 rfl) rfl (by show 2 * 0 + _ ≤ _; exact Nat.le_of_eq rfl) (hb hby at_11) (fun _ _ => ⟨rfl, rfl, (by decide : 3 + 0 ≤ _), (by decide : 7 + 0 ≤ _)⟩)
  dsimp only [Pt.U, Pt.locs, Pt.cells, Pt.slots] at X7 l7 y7 z7 st7 hQ7
  subst l7 y7 z7
  obtain ⟨rfl, N7q, e7⟩ := hQ7
  have N7 := Fr.app N5 N7q
  have pre8 : ∀ t, Steps p.tables e below (T7.setTop (mkF m 17 #[.val (.long q1), .second, .val (.long q2), .second, .val (.int p3), .val (.int p4), .val (.int p5), .unset, .unset, .unset, .unset, .unset, .unset, .unset, .unset, .unset, .unset, .unset, .unset, .unset, .unset, .unset, .unset, .unset, .unset, .unset, .unset] [(.int (cmpValue (Jvm.FP.Core.dcmp (Jvm.FP.Core.ddiv (Jvm.FP.Core.l2d q1) (Jvm.FP.Core.l2d (1 : Int64))) (Jvm.FP.Core.l2d q1)) .l))])) t → Steps p.tables e below _ t := fun t kt => pre6 t (by
    show Steps p.tables e below (T5.setTop (mkF m 11 #[.val (.long q1), .second, .val (.long q2), .second, .val (.int p3), .val (.int p4), .val (.int p5), .unset, .unset, .unset, .unset, .unset, .unset, .unset, .unset, .unset, .unset, .unset, .unset, .unset, .unset, .unset, .unset, .unset, .unset, .unset, .unset] [(.ref b1)])) _
    refine st7.trans ?_
    show Steps p.tables e below (T7.setTop (mkF m 14 #[.val (.long q1), .second, .val (.long q2), .second, .val (.int p3), .val (.int p4), .val (.int p5), .unset, .unset, .unset, .unset, .unset, .unset, .unset, .unset, .unset, .unset, .unset, .unset, .unset, .unset, .unset, .unset, .unset, .unset, .unset, .unset] [(.double (Jvm.FP.Core.ddiv (Jvm.FP.Core.l2d q1) (Jvm.FP.Core.l2d (1 : Int64))))])) _
    refine XS.lloadN X7.here hx rfl (hb hby at_14) rfl ?_
    show Steps p.tables e below (T7.setTop (mkF m 15 #[.val (.long q1), .second, .val (.long q2), .second, .val (.int p3), .val (.int p4), .val (.int p5), .unset, .unset, .unset, .unset, .unset, .unset, .unset, .unset, .unset, .unset, .unset, .unset, .unset, .unset, .unset, .unset, .unset, .unset, .unset, .unset] [(.long q1), (.double (Jvm.FP.Core.ddiv (Jvm.FP.Core.l2d q1) (Jvm.FP.Core.l2d (1 : Int64))))])) _
    refine XS.l2dS X7.here hx rfl (hb hby at_15) rfl rfl ?_
    show Steps p.tables e below (T7.setTop (mkF m 16 #[.val (.long q1), .second, .val (.long q2), .second, .val (.int p3), .val (.int p4), .val (.int p5), .unset, .unset, .unset, .unset, .unset, .unset, .unset, .unset, .unset, .unset, .unset, .unset, .unset, .unset, .unset, .unset, .unset, .unset, .unset, .unset] [(.double (Jvm.FP.Core.l2d q1)), (.double (Jvm.FP.Core.ddiv (Jvm.FP.Core.l2d q1) (Jvm.FP.Core.l2d (1 : Int64))))])) _
    refine XS.dcmpS X7.here hx rfl (hb hby at_16) rfl rfl ?_
    exact kt)
  have hv9 : (cmpValue (Jvm.FP.Core.dcmp (Jvm.FP.Core.ddiv (Jvm.FP.Core.l2d q1) (Jvm.FP.Core.l2d (1 : Int64))) (Jvm.FP.Core.l2d q1)) .l) = (0 : Int32) := congrArg (fun o => cmpValue o .l) (own_byOne q1)
  rw [hv9] at pre8
  have pre10 : ∀ t, Steps p.tables e below (T7.setTop (mkF m 43 #[.val (.long q1), .second, .val (.long q2), .second, .val (.int p3), .val (.int p4), .val (.int p5), .val (.int (1 : Int32)), .val (.long ((p3 >>> ((6 : Int32) &&& 31)).toInt64)), .second, .val (.long ((p4 >>> ((6 : Int32) &&& 31)).toInt64)), .second, .unset, .unset, .unset, .unset, .unset, .unset, .unset, .unset, .unset, .unset, .unset, .unset, .unset, .unset, .unset] [])) t → Steps p.tables e below _ t := fun t kt => pre8 t (by
    have hc17 : (0 : Int32) = (0 : Int32) := rfl
    show Steps p.tables e below (T7.setTop (mkF m 17 #[.val (.long q1), .second, .val (.long q2), .second, .val (.int p3), .val (.int p4), .val (.int p5), .unset, .unset, .unset, .unset, .unset, .unset, .unset, .unset, .unset, .unset, .unset, .unset, .unset, .unset, .unset, .unset, .unset, .unset, .unset, .unset] [(.int (0 : Int32))])) _
    refine XS.ifNo X7.here hx rfl (hb hby at_17) rfl ((if0 _ _).trans (teq hc17).2) ?_
    show Steps p.tables e below (T7.setTop (mkF m 20 #[.val (.long q1), .second, .val (.long q2), .second, .val (.int p3), .val (.int p4), .val (.int p5), .unset, .unset, .unset, .unset, .unset, .unset, .unset, .unset, .unset, .unset, .unset, .unset, .unset, .unset, .unset, .unset, .unset, .unset, .unset, .unset] [])) _
    refine XS.iconst X7.here hx rfl (hb hby at_20) ?_
    show Steps p.tables e below (T7.setTop (mkF m 21 #[.val (.long q1), .second, .val (.long q2), .second, .val (.int p3), .val (.int p4), .val (.int p5), .unset, .unset, .unset, .unset, .unset, .unset, .unset, .unset, .unset, .unset, .unset, .unset, .unset, .unset, .unset, .unset, .unset, .unset, .unset, .unset] [(.int (1 : Int32))])) _
    refine XS.goto X7.here hx rfl (pc0 := 21) (pc' := 25) rfl (hb hby at_21) (by decide) (by decide) ?_
    show Steps p.tables e below (T7.setTop (mkF m 25 #[.val (.long q1), .second, .val (.long q2), .second, .val (.int p3), .val (.int p4), .val (.int p5), .unset, .unset, .unset, .unset, .unset, .unset, .unset, .unset, .unset, .unset, .unset, .unset, .unset, .unset, .unset, .unset, .unset, .unset, .unset, .unset] [(.int (1 : Int32))])) _
    refine XS.istore X7.here hx rfl (hb hby at_25) rfl (l' := #[.val (.long q1), .second, .val (.long q2), .second, .val (.int p3), .val (.int p4), .val (.int p5), .val (.int (1 : Int32)), .unset, .unset, .unset, .unset, .unset, .unset, .unset, .unset, .unset, .unset, .unset, .unset, .unset, .unset, .unset, .unset, .unset, .unset, .unset]) rfl ?_
    show Steps p.tables e below (T7.setTop (mkF m 27 #[.val (.long q1), .second, .val (.long q2), .second, .val (.int p3), .val (.int p4), .val (.int p5), .val (.int (1 : Int32)), .unset, .unset, .unset, .unset, .unset, .unset, .unset, .unset, .unset, .unset, .unset, .unset, .unset, .unset, .unset, .unset, .unset, .unset, .unset] [])) _
    refine XS.iload X7.here hx rfl (hb hby at_27) rfl ?_
    show Steps p.tables e below (T7.setTop (mkF m 29 #[.val (.long q1), .second, .val (.long q2), .second, .val (.int p3), .val (.int p4), .val (.int p5), .val (.int (1 : Int32)), .unset, .unset, .unset, .unset, .unset, .unset, .unset, .unset, .unset, .unset, .unset, .unset, .unset, .unset, .unset, .unset, .unset, .unset, .unset] [(.int p3)])) _
    refine XS.bipush X7.here hx rfl (hb hby at_29) ?_
    show Steps p.tables e below (T7.setTop (mkF m 31 #[.val (.long q1), .second, .val (.long q2), .second, .val (.int p3), .val (.int p4), .val (.int p5), .val (.int (1 : Int32)), .unset, .unset, .unset, .unset, .unset, .unset, .unset, .unset, .unset, .unset, .unset, .unset, .unset, .unset, .unset, .unset, .unset, .unset, .unset] [(.int (6 : Int32)), (.int p3)])) _
    refine XS.ishr X7.here hx rfl (hb hby at_31) rfl ?_
    show Steps p.tables e below (T7.setTop (mkF m 32 #[.val (.long q1), .second, .val (.long q2), .second, .val (.int p3), .val (.int p4), .val (.int p5), .val (.int (1 : Int32)), .unset, .unset, .unset, .unset, .unset, .unset, .unset, .unset, .unset, .unset, .unset, .unset, .unset, .unset, .unset, .unset, .unset, .unset, .unset] [(.int (p3 >>> ((6 : Int32) &&& 31)))])) _
    refine XS.i2l X7.here hx rfl (hb hby at_32) rfl ?_
    show Steps p.tables e below (T7.setTop (mkF m 33 #[.val (.long q1), .second, .val (.long q2), .second, .val (.int p3), .val (.int p4), .val (.int p5), .val (.int (1 : Int32)), .unset, .unset, .unset, .unset, .unset, .unset, .unset, .unset, .unset, .unset, .unset, .unset, .unset, .unset, .unset, .unset, .unset, .unset, .unset] [(.long ((p3 >>> ((6 : Int32) &&& 31)).toInt64))])) _
    refine XS.lstore X7.here hx rfl (hb hby at_33) rfl (l' := #[.val (.long q1), .second, .val (.long q2), .second, .val (.int p3), .val (.int p4), .val (.int p5), .val (.int (1 : Int32)), .val (.long ((p3 >>> ((6 : Int32) &&& 31)).toInt64)), .second, .unset, .unset, .unset, .unset, .unset, .unset, .unset, .unset, .unset, .unset, .unset, .unset, .unset, .unset, .unset, .unset, .unset]) rfl ?_
    show Steps p.tables e below (T7.setTop (mkF m 35 #[.val (.long q1), .second, .val (.long q2), .second, .val (.int p3), .val (.int p4), .val (.int p5), .val (.int (1 : Int32)), .val (.long ((p3 >>> ((6 : Int32) &&& 31)).toInt64)), .second, .unset, .unset, .unset, .unset, .unset, .unset, .unset, .unset, .unset, .unset, .unset, .unset, .unset, .unset, .unset, .unset, .unset] [])) _
    refine XS.iload X7.here hx rfl (hb hby at_35) rfl ?_
    show Steps p.tables e below (T7.setTop (mkF m 37 #[.val (.long q1), .second, .val (.long q2), .second, .val (.int p3), .val (.int p4), .val (.int p5), .val (.int (1 : Int32)), .val (.long ((p3 >>> ((6 : Int32) &&& 31)).toInt64)), .second, .unset, .unset, .unset, .unset, .unset, .unset, .unset, .unset, .unset, .unset, .unset, .unset, .unset, .unset, .unset, .unset, .unset] [(.int p4)])) _
    refine XS.bipush X7.here hx rfl (hb hby at_37) ?_
    show Steps p.tables e below (T7.setTop (mkF m 39 #[.val (.long q1), .second, .val (.long q2), .second, .val (.int p3), .val (.int p4), .val (.int p5), .val (.int (1 : Int32)), .val (.long ((p3 >>> ((6 : Int32) &&& 31)).toInt64)), .second, .unset, .unset, .unset, .unset, .unset, .unset, .unset, .unset, .unset, .unset, .unset, .unset, .unset, .unset, .unset, .unset, .unset] [(.int (6 : Int32)), (.int p4)])) _
    refine XS.ishr X7.here hx rfl (hb hby at_39) rfl ?_
    show Steps p.tables e below (T7.setTop (mkF m 40 #[.val (.long q1), .second, .val (.long q2), .second, .val (.int p3), .val (.int p4), .val (.int p5), .val (.int (1 : Int32)), .val (.long ((p3 >>> ((6 : Int32) &&& 31)).toInt64)), .second, .unset, .unset, .unset, .unset, .unset, .unset, .unset, .unset, .unset, .unset, .unset, .unset, .unset, .unset, .unset, .unset, .unset] [(.int (p4 >>> ((6 : Int32) &&& 31)))])) _
    refine XS.i2l X7.here hx rfl (hb hby at_40) rfl ?_
    show Steps p.tables e below (T7.setTop (mkF m 41 #[.val (.long q1), .second, .val (.long q2), .second, .val (.int p3), .val (.int p4), .val (.int p5), .val (.int (1 : Int32)), .val (.long ((p3 >>> ((6 : Int32) &&& 31)).toInt64)), .second, .unset, .unset, .unset, .unset, .unset, .unset, .unset, .unset, .unset, .unset, .unset, .unset, .unset, .unset, .unset, .unset, .unset] [(.long ((p4 >>> ((6 : Int32) &&& 31)).toInt64))])) _
    refine XS.lstore X7.here hx rfl (hb hby at_41) rfl (l' := #[.val (.long q1), .second, .val (.long q2), .second, .val (.int p3), .val (.int p4), .val (.int p5), .val (.int (1 : Int32)), .val (.long ((p3 >>> ((6 : Int32) &&& 31)).toInt64)), .second, .val (.long ((p4 >>> ((6 : Int32) &&& 31)).toInt64)), .second, .unset, .unset, .unset, .unset, .unset, .unset, .unset, .unset, .unset, .unset, .unset, .unset, .unset, .unset, .unset]) rfl ?_
    exact kt)
  obtain ⟨xb, hxb⟩ : ∃ z : Int64, z = ((p3 >>> ((6 : Int32) &&& 31)).toInt64) := ⟨_, rfl⟩
  rw [← hxb] at pre10
  have hxb2 : xb.toInt.natAbs ≤ 33554432 := by rw [hxb]; exact own_shr6 _
  obtain ⟨yb0, hyb0⟩ : ∃ z : Int64, z = ((p4 >>> ((6 : Int32) &&& 31)).toInt64) := ⟨_, rfl⟩
  rw [← hyb0] at pre10
  have hyb2 : yb0.toInt.natAbs ≤ 33554432 := by rw [hyb0]; exact own_shr6 _
  have pre11 : ∀ t, Steps p.tables e below (T7.setTop (mkF m 47 #[.val (.long q1), .second, .val (.long q2), .second, .val (.int p3), .val (.int p4), .val (.int p5), .val (.int (1 : Int32)), .val (.long xb), .second, .val (.long yb0), .second, .unset, .unset, .unset, .unset, .unset, .unset, .unset, .unset, .unset, .unset, .unset, .unset, .unset, .unset, .unset] [(.int (lcmpW yb0 (0 : Int64)))])) t → Steps p.tables e below _ t := fun t kt => pre10 t (by
    show Steps p.tables e below (T7.setTop (mkF m 43 #[.val (.long q1), .second, .val (.long q2), .second, .val (.int p3), .val (.int p4), .val (.int p5), .val (.int (1 : Int32)), .val (.long xb), .second, .val (.long yb0), .second, .unset, .unset, .unset, .unset, .unset, .unset, .unset, .unset, .unset, .unset, .unset, .unset, .unset, .unset, .unset] [])) _
    refine XS.lload X7.here hx rfl (hb hby at_43) rfl ?_
    show Steps p.tables e below (T7.setTop (mkF m 45 #[.val (.long q1), .second, .val (.long q2), .second, .val (.int p3), .val (.int p4), .val (.int p5), .val (.int (1 : Int32)), .val (.long xb), .second, .val (.long yb0), .second, .unset, .unset, .unset, .unset, .unset, .unset, .unset, .unset, .unset, .unset, .unset, .unset, .unset, .unset, .unset] [(.long yb0)])) _
    refine XS.lconst X7.here hx rfl (hb hby at_45) ?_
    show Steps p.tables e below (T7.setTop (mkF m 46 #[.val (.long q1), .second, .val (.long q2), .second, .val (.int p3), .val (.int p4), .val (.int p5), .val (.int (1 : Int32)), .val (.long xb), .second, .val (.long yb0), .second, .unset, .unset, .unset, .unset, .unset, .unset, .unset, .unset, .unset, .unset, .unset, .unset, .unset, .unset, .unset] [(.long (0 : Int64)), (.long yb0)])) _
    refine XS.lcmp X7.here hx rfl (hb hby at_46) rfl ?_
    exact kt)
  have pre12 : ∀ t, Steps p.tables e below (T7.setTop (mkF m 53 #[.val (.long q1), .second, .val (.long q2), .second, .val (.int p3), .val (.int p4), .val (.int p5), .val (.int (1 : Int32)), .val (.long xb), .second, .val (.long (if (lcmpW yb0 (0 : Int64)) = (0 : Int32) then (1 : Int64) else yb0)), .second, .unset, .unset, .unset, .unset, .unset, .unset, .unset, .unset, .unset, .unset, .unset, .unset, .unset, .unset, .unset] [])) t → Steps p.tables e below (s₁.setTop (entryFrame m #[(.long q1), (.long q2), (.int p3), (.int p4), (.int p5)] maxLocals)) t := fun t kt => by
    refine pre11 t ?_
    by_cases hd47 : (lcmpW yb0 (0 : Int64)) = (0 : Int32)
    · simp only [if_pos hd47] at kt
      show Steps p.tables e below (T7.setTop (mkF m 47 #[.val (.long q1), .second, .val (.long q2), .second, .val (.int p3), .val (.int p4), .val (.int p5), .val (.int (1 : Int32)), .val (.long xb), .second, .val (.long yb0), .second, .unset, .unset, .unset, .unset, .unset, .unset, .unset, .unset, .unset, .unset, .unset, .unset, .unset, .unset, .unset] [(.int (lcmpW yb0 (0 : Int64)))])) _
      refine XS.ifNo X7.here hx rfl (hb hby at_47) rfl ((if0 _ _).trans (teq hd47).2) ?_
      show Steps p.tables e below (T7.setTop (mkF m 50 #[.val (.long q1), .second, .val (.long q2), .second, .val (.int p3), .val (.int p4), .val (.int p5), .val (.int (1 : Int32)), .val (.long xb), .second, .val (.long yb0), .second, .unset, .unset, .unset, .unset, .unset, .unset, .unset, .unset, .unset, .unset, .unset, .unset, .unset, .unset, .unset] [])) _
      refine XS.lconst X7.here hx rfl (hb hby at_50) ?_
      show Steps p.tables e below (T7.setTop (mkF m 51 #[.val (.long q1), .second, .val (.long q2), .second, .val (.int p3), .val (.int p4), .val (.int p5), .val (.int (1 : Int32)), .val (.long xb), .second, .val (.long yb0), .second, .unset, .unset, .unset, .unset, .unset, .unset, .unset, .unset, .unset, .unset, .unset, .unset, .unset, .unset, .unset] [(.long (1 : Int64))])) _
      refine XS.lstore X7.here hx rfl (hb hby at_51) rfl (l' := #[.val (.long q1), .second, .val (.long q2), .second, .val (.int p3), .val (.int p4), .val (.int p5), .val (.int (1 : Int32)), .val (.long xb), .second, .val (.long (1 : Int64)), .second, .unset, .unset, .unset, .unset, .unset, .unset, .unset, .unset, .unset, .unset, .unset, .unset, .unset, .unset, .unset]) rfl ?_
      exact kt
    · simp only [if_neg hd47] at kt
      show Steps p.tables e below (T7.setTop (mkF m 47 #[.val (.long q1), .second, .val (.long q2), .second, .val (.int p3), .val (.int p4), .val (.int p5), .val (.int (1 : Int32)), .val (.long xb), .second, .val (.long yb0), .second, .unset, .unset, .unset, .unset, .unset, .unset, .unset, .unset, .unset, .unset, .unset, .unset, .unset, .unset, .unset] [(.int (lcmpW yb0 (0 : Int64)))])) _
      refine XS.ifYes X7.here hx rfl (pc0 := 47) (pc' := 53) rfl (hb hby at_47) rfl ((if0 _ _).trans (feq hd47).2) (by decide) (by decide) ?_
      exact kt
  obtain ⟨yb, hyb⟩ : ∃ z : Int64, z = (if (lcmpW yb0 (0 : Int64)) = (0 : Int32) then (1 : Int64) else yb0) := ⟨_, rfl⟩
  rw [← hyb] at pre12
  have hyb_ := own_yb yb0 hyb2
  rw [← hyb] at hyb_
  have hyb := hyb_
  have hpm := own_pmul hxb2 hyb.2
  obtain ⟨T13, h13, X13, e13, E13, A13, D13, -, st13⟩ := newO X7 hx hz3 how3 (hw _ (List.mem_of_getElem? (i := 0) rfl)) (hw _ (List.mem_of_getElem? (i := 1) rfl)) (hw _ (List.mem_of_getElem? (i := 2) rfl)) e7 (g := (mkF m 53 #[.val (.long q1), .second, .val (.long q2), .second, .val (.int p3), .val (.int p4), .val (.int p5), .val (.int (1 : Int32)), .val (.long xb), .second, .val (.long yb), .second, .unset, .unset, .unset, .unset, .unset, .unset, .unset, .unset, .unset, .unset, .unset, .unset, .unset, .unset, .unset] [])) rfl (hb hby at_53) (by decide) (by decide)
  obtain ⟨b13, gb13⟩ : ∃ z, z = T5.heap.size := ⟨_, rfl⟩
  rw [← gb13] at A13 D13 st13
  have g_b13 : n0 ≤ b13 := Nat.le_trans ZcA (Nat.le_of_eq gb13.symm)
  have Zs13 : n0 ≤ h13.size := Nat.le_trans ZcA E13.1
  have EaB := A13
  have FsB : Fld Z h13 b13 "canonsign/cli/SigningSpeed" "signature" "Ljava/lang/String;" .null := D13 (Or.inr (hw _ (List.mem_of_getElem? (i := 23) rfl))) (ty := (.object "java/lang/String")) (by decide)
  have F1B : Fld Z h13 b13 "canonsign/cli/SigningSpeed" "signNanos" "J" (.long 0) := D13 (Or.inr (hw _ (List.mem_of_getElem? (i := 25) rfl))) (ty := .long) (by decide)
  have F2B : Fld Z h13 b13 "canonsign/cli/SigningSpeed" "hmacNanos" "J" (.long 0) := D13 (Or.inr (hw _ (List.mem_of_getElem? (i := 27) rfl))) (ty := .long) (by decide)
  have kz13 : ks3 ≤ h13.size := Nat.le_trans kcA E13.1
  have pre14 : ∀ t, Steps p.tables e below (T13.setTop (mkF m 57 #[.val (.long q1), .second, .val (.long q2), .second, .val (.int p3), .val (.int p4), .val (.int p5), .val (.int (1 : Int32)), .val (.long xb), .second, .val (.long yb), .second, .unset, .unset, .unset, .unset, .unset, .unset, .unset, .unset, .unset, .unset, .unset, .unset, .unset, .unset, .unset] [(.ref b13), (.ref b13)])) t → Steps p.tables e below _ t := fun t kt => pre12 t (by
    show Steps p.tables e below (T7.setTop (mkF m 53 #[.val (.long q1), .second, .val (.long q2), .second, .val (.int p3), .val (.int p4), .val (.int p5), .val (.int (1 : Int32)), .val (.long xb), .second, .val (.long yb), .second, .unset, .unset, .unset, .unset, .unset, .unset, .unset, .unset, .unset, .unset, .unset, .unset, .unset, .unset, .unset] [])) _
    refine st13 _ ?_
    show Steps p.tables e below (T13.setTop (mkF m 56 #[.val (.long q1), .second, .val (.long q2), .second, .val (.int p3), .val (.int p4), .val (.int p5), .val (.int (1 : Int32)), .val (.long xb), .second, .val (.long yb), .second, .unset, .unset, .unset, .unset, .unset, .unset, .unset, .unset, .unset, .unset, .unset, .unset, .unset, .unset, .unset] [(.ref b13)])) _
    refine XS.dup X13.here hx rfl (hb hby at_56) rfl rfl ?_
    exact kt)
  obtain ⟨as15, T15, h15, ks15, X15, e15, E15, Si15, hk15, hz15, how15, st15⟩ := ldcS (s := s) (vm0 := T3.vm) X13 hx hz3 how3 (hw _ (List.mem_of_getElem? (i := 3) rfl)) wS e13 Si3 kz13 (g := (mkF m 57 #[.val (.long q1), .second, .val (.long q2), .second, .val (.int p3), .val (.int p4), .val (.int p5), .val (.int (1 : Int32)), .val (.long xb), .second, .val (.long yb), .second, .unset, .unset, .unset, .unset, .unset, .unset, .unset, .unset, .unset, .unset, .unset, .unset, .unset, .unset, .unset] [(.ref b13), (.ref b13)])) rfl (hb hby at_57) (n := 0) (by decide) (by decide) (by decide) (by decide)
  have Zs15 : n0 ≤ h15.size := Nat.le_trans Zs13 E15.1
  have EaBx := EaB.ext E15
  have FsBx := FsB.ext E15
  have F1Bx := F1B.ext E15
  have F2Bx := F2B.ext E15
  have pre16 : ∀ t, Steps p.tables e below (T15.setTop (mkF m 66 #[.val (.long q1), .second, .val (.long q2), .second, .val (.int p3), .val (.int p4), .val (.int p5), .val (.int (1 : Int32)), .val (.long xb), .second, .val (.long yb), .second, .unset, .unset, .unset, .unset, .unset, .unset, .unset, .unset, .unset, .unset, .unset, .unset, .unset, .unset, .unset] [(.long yb), (.long (xb * yb)), (.ref as15), (.ref b13), (.ref b13)])) t → Steps p.tables e below _ t := fun t kt => pre14 t (by
    show Steps p.tables e below (T13.setTop (mkF m 57 #[.val (.long q1), .second, .val (.long q2), .second, .val (.int p3), .val (.int p4), .val (.int p5), .val (.int (1 : Int32)), .val (.long xb), .second, .val (.long yb), .second, .unset, .unset, .unset, .unset, .unset, .unset, .unset, .unset, .unset, .unset, .unset, .unset, .unset, .unset, .unset] [(.ref b13), (.ref b13)])) _
    refine st15 _ ?_
    show Steps p.tables e below (T15.setTop (mkF m 59 #[.val (.long q1), .second, .val (.long q2), .second, .val (.int p3), .val (.int p4), .val (.int p5), .val (.int (1 : Int32)), .val (.long xb), .second, .val (.long yb), .second, .unset, .unset, .unset, .unset, .unset, .unset, .unset, .unset, .unset, .unset, .unset, .unset, .unset, .unset, .unset] [(.ref as15), (.ref b13), (.ref b13)])) _
    refine XS.lload X15.here hx rfl (hb hby at_59) rfl ?_
    show Steps p.tables e below (T15.setTop (mkF m 61 #[.val (.long q1), .second, .val (.long q2), .second, .val (.int p3), .val (.int p4), .val (.int p5), .val (.int (1 : Int32)), .val (.long xb), .second, .val (.long yb), .second, .unset, .unset, .unset, .unset, .unset, .unset, .unset, .unset, .unset, .unset, .unset, .unset, .unset, .unset, .unset] [(.long xb), (.ref as15), (.ref b13), (.ref b13)])) _
    refine XS.lload X15.here hx rfl (hb hby at_61) rfl ?_
    show Steps p.tables e below (T15.setTop (mkF m 63 #[.val (.long q1), .second, .val (.long q2), .second, .val (.int p3), .val (.int p4), .val (.int p5), .val (.int (1 : Int32)), .val (.long xb), .second, .val (.long yb), .second, .unset, .unset, .unset, .unset, .unset, .unset, .unset, .unset, .unset, .unset, .unset, .unset, .unset, .unset, .unset] [(.long yb), (.long xb), (.ref as15), (.ref b13), (.ref b13)])) _
    refine XS.lmul X15.here hx rfl (hb hby at_63) rfl ?_
    show Steps p.tables e below (T15.setTop (mkF m 64 #[.val (.long q1), .second, .val (.long q2), .second, .val (.int p3), .val (.int p4), .val (.int p5), .val (.int (1 : Int32)), .val (.long xb), .second, .val (.long yb), .second, .unset, .unset, .unset, .unset, .unset, .unset, .unset, .unset, .unset, .unset, .unset, .unset, .unset, .unset, .unset] [(.long (xb * yb)), (.ref as15), (.ref b13), (.ref b13)])) _
    refine XS.lload X15.here hx rfl (hb hby at_64) rfl ?_
    exact kt)
  obtain ⟨_, _, ⟨T17, L17, k17, n17⟩, -, X17, ⟨Lc17, hQ17, l17, y17, z17⟩, st17⟩ := X15.specialBack hx (y := (⟨"canonsign/cli/SigningSpeed", "<init>", "(Ljava/lang/String;JJ)V"⟩ : MethodName)) rfl how15 (mvT hz15 (hw _ (List.mem_of_getElem? (i := 11) rfl))) (mvT hz15 (hw _ (List.mem_of_getElem? (i := 12) rfl))) (mvT hz15 (hw _ (List.mem_of_getElem? (i := 13) rfl))) (by decide) (backOf (W := 1) (rm1 l Z a0 hw [] b13 as15 (xb * yb) yb h15 n0 Zs15 EaBx FsBx F1Bx F2Bx g_b13) hz15 (hw _ (List.mem_of_getElem? (i := 13) rfl)) (hw _ (List.mem_of_getElem? (i := 2) rfl)) (by decide) (by decide)) (g := (mkF m 66 #[.val (.long q1), .second, .val (.long q2), .second, .val (.int p3), .val (.int p4), .val (.int p5), .val (.int (1 : Int32)), .val (.long xb), .second, .val (.long yb), .second, .unset, .unset, .unset, .unset, .unset, .unset, .unset, .unset, .unset, .unset, .unset, .unset, .unset, .unset, .unset] [(.long yb), (.long (xb * yb)), (.ref as15), (.ref b13), (.ref b13)])) rfl (by rw [hml]; rfl) (Steps.refl _) (a := b13) (argsL := [(.ref as15), (.long (xb * yb)), (.long yb)]) (rest := [(.ref b13)]) (lenOf pd_1 rfl) rfl (by show 2 * 0 + _ ≤ _; exact Nat.le_of_eq rfl) (hb hby at_66) (fun _ _ => ⟨rfl, e15, (by decide : 6 + 0 ≤ _), (by decide : 14 + 0 ≤ _)⟩)
  dsimp only [Pt.U, Pt.locs, Pt.cells, Pt.slots] at X17 l17 y17 z17 st17 hQ17
  subst l17 y17 z17
  obtain ⟨rfl, N17q, KcB, EcB, FxB, FyB⟩ := hQ17
  have N17 := Fr.app N7 N17q
  have ZcB : n0 ≤ T17.heap.size := Nat.le_trans Zs15 KcB.1
  have kcB : ks15 ≤ T17.heap.size := Nat.le_trans hk15 KcB.1
  have pre18 : ∀ t, Steps p.tables e below (T17.setTop (mkF m 69 #[.val (.long q1), .second, .val (.long q2), .second, .val (.int p3), .val (.int p4), .val (.int p5), .val (.int (1 : Int32)), .val (.long xb), .second, .val (.long yb), .second, .unset, .unset, .unset, .unset, .unset, .unset, .unset, .unset, .unset, .unset, .unset, .unset, .unset, .unset, .unset] [(.ref b13)])) t → Steps p.tables e below _ t := fun t kt => pre16 t (by
    show Steps p.tables e below (T15.setTop (mkF m 66 #[.val (.long q1), .second, .val (.long q2), .second, .val (.int p3), .val (.int p4), .val (.int p5), .val (.int (1 : Int32)), .val (.long xb), .second, .val (.long yb), .second, .unset, .unset, .unset, .unset, .unset, .unset, .unset, .unset, .unset, .unset, .unset, .unset, .unset, .unset, .unset] [(.long yb), (.long (xb * yb)), (.ref as15), (.ref b13), (.ref b13)])) _
    refine st17.trans ?_
    exact kt)
  obtain ⟨cq19, kq19, q19a, q19b, q19c⟩ := isOf hz15 rfl EcB
  obtain ⟨_, _, ⟨T19, L19, k19, n19⟩, -, X19, ⟨Lc19, hQ19, l19, y19, z19⟩, st19⟩ := X17.virtualBack hx (y := (⟨"canonsign/cli/SigningSpeed", "ratio", "()D"⟩ : MethodName)) (z := (⟨"canonsign/cli/SigningSpeed", "ratio", "()D"⟩ : MethodName)) how15 (mvT hz15 (hw _ (List.mem_of_getElem? (i := 28) rfl))) (mvT hz15 (hw _ (List.mem_of_getElem? (i := 29) rfl))) (notFace_of_selects (args := #[]) (mvT hz15 (hw _ (List.mem_of_getElem? (i := 31) rfl)))) (mvT hz15 (hw _ (List.mem_of_getElem? (i := 31) rfl))) (mvT hz15 (hw _ (List.mem_of_getElem? (i := 30) rfl))) (by decide) (backOf (W := 0) (rm4 l Z a0 hw [] b13 (xb * yb) yb T17.heap n0 ZcB FxB FyB hyb.1) hz15 (hw _ (List.mem_of_getElem? (i := 32) rfl)) (hw _ (List.mem_of_getElem? (i := 2) rfl)) (by decide) (by decide)) q19a q19c (g := (mkF m 69 #[.val (.long q1), .second, .val (.long q2), .second, .val (.int p3), .val (.int p4), .val (.int p5), .val (.int (1 : Int32)), .val (.long xb), .second, .val (.long yb), .second, .unset, .unset, .unset, .unset, .unset, .unset, .unset, .unset, .unset, .unset, .unset, .unset, .unset, .unset, .unset] [(.ref b13)])) rfl (by rw [hml]; rfl) (Steps.refl _) (argsL := []) (rest := []) (lenOf pd_2 rfl) rfl (by show 2 * 0 + _ ≤ _; exact Nat.le_of_eq rfl) (hb hby at_69) (fun _ _ => ⟨rfl, rfl, (by decide : 6 + 0 ≤ _), (by decide : 14 + 0 ≤ _)⟩)
  dsimp only [Pt.U, Pt.locs, Pt.cells, Pt.slots] at X19 l19 y19 z19 st19 hQ19
  subst l19 y19 z19
  obtain ⟨rfl, N19q, e19⟩ := hQ19
  have N19 := Fr.app N17 N19q
  have pre20 : ∀ t, Steps p.tables e below (T19.setTop (mkF m 76 #[.val (.long q1), .second, .val (.long q2), .second, .val (.int p3), .val (.int p4), .val (.int p5), .val (.int (1 : Int32)), .val (.long xb), .second, .val (.long yb), .second, .unset, .unset, .unset, .unset, .unset, .unset, .unset, .unset, .unset, .unset, .unset, .unset, .unset, .unset, .unset] [(.int (cmpValue (Jvm.FP.Core.dcmp (Jvm.FP.Core.ddiv (Jvm.FP.Core.l2d (xb * yb)) (Jvm.FP.Core.l2d yb)) (Jvm.FP.Core.l2d xb)) .l))])) t → Steps p.tables e below _ t := fun t kt => pre18 t (by
    show Steps p.tables e below (T17.setTop (mkF m 69 #[.val (.long q1), .second, .val (.long q2), .second, .val (.int p3), .val (.int p4), .val (.int p5), .val (.int (1 : Int32)), .val (.long xb), .second, .val (.long yb), .second, .unset, .unset, .unset, .unset, .unset, .unset, .unset, .unset, .unset, .unset, .unset, .unset, .unset, .unset, .unset] [(.ref b13)])) _
    refine st19.trans ?_
    show Steps p.tables e below (T19.setTop (mkF m 72 #[.val (.long q1), .second, .val (.long q2), .second, .val (.int p3), .val (.int p4), .val (.int p5), .val (.int (1 : Int32)), .val (.long xb), .second, .val (.long yb), .second, .unset, .unset, .unset, .unset, .unset, .unset, .unset, .unset, .unset, .unset, .unset, .unset, .unset, .unset, .unset] [(.double (Jvm.FP.Core.ddiv (Jvm.FP.Core.l2d (xb * yb)) (Jvm.FP.Core.l2d yb)))])) _
    refine XS.lload X19.here hx rfl (hb hby at_72) rfl ?_
    show Steps p.tables e below (T19.setTop (mkF m 74 #[.val (.long q1), .second, .val (.long q2), .second, .val (.int p3), .val (.int p4), .val (.int p5), .val (.int (1 : Int32)), .val (.long xb), .second, .val (.long yb), .second, .unset, .unset, .unset, .unset, .unset, .unset, .unset, .unset, .unset, .unset, .unset, .unset, .unset, .unset, .unset] [(.long xb), (.double (Jvm.FP.Core.ddiv (Jvm.FP.Core.l2d (xb * yb)) (Jvm.FP.Core.l2d yb)))])) _
    refine XS.l2dS X19.here hx rfl (hb hby at_74) rfl rfl ?_
    show Steps p.tables e below (T19.setTop (mkF m 75 #[.val (.long q1), .second, .val (.long q2), .second, .val (.int p3), .val (.int p4), .val (.int p5), .val (.int (1 : Int32)), .val (.long xb), .second, .val (.long yb), .second, .unset, .unset, .unset, .unset, .unset, .unset, .unset, .unset, .unset, .unset, .unset, .unset, .unset, .unset, .unset] [(.double (Jvm.FP.Core.l2d xb)), (.double (Jvm.FP.Core.ddiv (Jvm.FP.Core.l2d (xb * yb)) (Jvm.FP.Core.l2d yb)))])) _
    refine XS.dcmpS X19.here hx rfl (hb hby at_75) rfl rfl ?_
    exact kt)
  have hv21 : (cmpValue (Jvm.FP.Core.dcmp (Jvm.FP.Core.ddiv (Jvm.FP.Core.l2d (xb * yb)) (Jvm.FP.Core.l2d yb)) (Jvm.FP.Core.l2d xb)) .l) = (0 : Int32) := congrArg (fun o => cmpValue o .l) (own_product hpm.1 (by omega) (by omega) hpm.2 hyb.1)
  rw [hv21] at pre20
  have pre22 : ∀ t, Steps p.tables e below (T19.setTop (mkF m 86 #[.val (.long q1), .second, .val (.long q2), .second, .val (.int p3), .val (.int p4), .val (.int p5), .val (.int (1 : Int32)), .val (.long xb), .second, .val (.long yb), .second, .val (.int (1 : Int32)), .unset, .unset, .unset, .unset, .unset, .unset, .unset, .unset, .unset, .unset, .unset, .unset, .unset, .unset] [])) t → Steps p.tables e below _ t := fun t kt => pre20 t (by
    have hc76 : (0 : Int32) = (0 : Int32) := rfl
    show Steps p.tables e below (T19.setTop (mkF m 76 #[.val (.long q1), .second, .val (.long q2), .second, .val (.int p3), .val (.int p4), .val (.int p5), .val (.int (1 : Int32)), .val (.long xb), .second, .val (.long yb), .second, .unset, .unset, .unset, .unset, .unset, .unset, .unset, .unset, .unset, .unset, .unset, .unset, .unset, .unset, .unset] [(.int (0 : Int32))])) _
    refine XS.ifNo X19.here hx rfl (hb hby at_76) rfl ((if0 _ _).trans (teq hc76).2) ?_
    show Steps p.tables e below (T19.setTop (mkF m 79 #[.val (.long q1), .second, .val (.long q2), .second, .val (.int p3), .val (.int p4), .val (.int p5), .val (.int (1 : Int32)), .val (.long xb), .second, .val (.long yb), .second, .unset, .unset, .unset, .unset, .unset, .unset, .unset, .unset, .unset, .unset, .unset, .unset, .unset, .unset, .unset] [])) _
    refine XS.iconst X19.here hx rfl (hb hby at_79) ?_
    show Steps p.tables e below (T19.setTop (mkF m 80 #[.val (.long q1), .second, .val (.long q2), .second, .val (.int p3), .val (.int p4), .val (.int p5), .val (.int (1 : Int32)), .val (.long xb), .second, .val (.long yb), .second, .unset, .unset, .unset, .unset, .unset, .unset, .unset, .unset, .unset, .unset, .unset, .unset, .unset, .unset, .unset] [(.int (1 : Int32))])) _
    refine XS.goto X19.here hx rfl (pc0 := 80) (pc' := 84) rfl (hb hby at_80) (by decide) (by decide) ?_
    show Steps p.tables e below (T19.setTop (mkF m 84 #[.val (.long q1), .second, .val (.long q2), .second, .val (.int p3), .val (.int p4), .val (.int p5), .val (.int (1 : Int32)), .val (.long xb), .second, .val (.long yb), .second, .unset, .unset, .unset, .unset, .unset, .unset, .unset, .unset, .unset, .unset, .unset, .unset, .unset, .unset, .unset] [(.int (1 : Int32))])) _
    refine XS.istore X19.here hx rfl (hb hby at_84) rfl (l' := #[.val (.long q1), .second, .val (.long q2), .second, .val (.int p3), .val (.int p4), .val (.int p5), .val (.int (1 : Int32)), .val (.long xb), .second, .val (.long yb), .second, .val (.int (1 : Int32)), .unset, .unset, .unset, .unset, .unset, .unset, .unset, .unset, .unset, .unset, .unset, .unset, .unset, .unset]) rfl ?_
    exact kt)
  obtain ⟨T23, h23, X23, e23, E23, A23, D23, -, st23⟩ := newO X19 hx hz15 how15 (hw _ (List.mem_of_getElem? (i := 0) rfl)) (hw _ (List.mem_of_getElem? (i := 1) rfl)) (hw _ (List.mem_of_getElem? (i := 2) rfl)) e19 (g := (mkF m 86 #[.val (.long q1), .second, .val (.long q2), .second, .val (.int p3), .val (.int p4), .val (.int p5), .val (.int (1 : Int32)), .val (.long xb), .second, .val (.long yb), .second, .val (.int (1 : Int32)), .unset, .unset, .unset, .unset, .unset, .unset, .unset, .unset, .unset, .unset, .unset, .unset, .unset, .unset] [])) rfl (hb hby at_86) (by decide) (by decide)
  obtain ⟨b23, gb23⟩ : ∃ z, z = T17.heap.size := ⟨_, rfl⟩
  rw [← gb23] at A23 D23 st23
  have g_b23 : n0 ≤ b23 := Nat.le_trans ZcB (Nat.le_of_eq gb23.symm)
  have Zs23 : n0 ≤ h23.size := Nat.le_trans ZcB E23.1
  have EaC := A23
  have FsC : Fld Z h23 b23 "canonsign/cli/SigningSpeed" "signature" "Ljava/lang/String;" .null := D23 (Or.inr (hw _ (List.mem_of_getElem? (i := 23) rfl))) (ty := (.object "java/lang/String")) (by decide)
  have F1C : Fld Z h23 b23 "canonsign/cli/SigningSpeed" "signNanos" "J" (.long 0) := D23 (Or.inr (hw _ (List.mem_of_getElem? (i := 25) rfl))) (ty := .long) (by decide)
  have F2C : Fld Z h23 b23 "canonsign/cli/SigningSpeed" "hmacNanos" "J" (.long 0) := D23 (Or.inr (hw _ (List.mem_of_getElem? (i := 27) rfl))) (ty := .long) (by decide)
  have kz23 : ks15 ≤ h23.size := Nat.le_trans kcB E23.1
  have pre24 : ∀ t, Steps p.tables e below (T23.setTop (mkF m 90 #[.val (.long q1), .second, .val (.long q2), .second, .val (.int p3), .val (.int p4), .val (.int p5), .val (.int (1 : Int32)), .val (.long xb), .second, .val (.long yb), .second, .val (.int (1 : Int32)), .unset, .unset, .unset, .unset, .unset, .unset, .unset, .unset, .unset, .unset, .unset, .unset, .unset, .unset] [(.ref b23), (.ref b23)])) t → Steps p.tables e below _ t := fun t kt => pre22 t (by
    show Steps p.tables e below (T19.setTop (mkF m 86 #[.val (.long q1), .second, .val (.long q2), .second, .val (.int p3), .val (.int p4), .val (.int p5), .val (.int (1 : Int32)), .val (.long xb), .second, .val (.long yb), .second, .val (.int (1 : Int32)), .unset, .unset, .unset, .unset, .unset, .unset, .unset, .unset, .unset, .unset, .unset, .unset, .unset, .unset] [])) _
    refine st23 _ ?_
    show Steps p.tables e below (T23.setTop (mkF m 89 #[.val (.long q1), .second, .val (.long q2), .second, .val (.int p3), .val (.int p4), .val (.int p5), .val (.int (1 : Int32)), .val (.long xb), .second, .val (.long yb), .second, .val (.int (1 : Int32)), .unset, .unset, .unset, .unset, .unset, .unset, .unset, .unset, .unset, .unset, .unset, .unset, .unset, .unset] [(.ref b23)])) _
    refine XS.dup X23.here hx rfl (hb hby at_89) rfl rfl ?_
    exact kt)
  obtain ⟨as25, T25, h25, ks25, X25, e25, E25, Si25, hk25, hz25, how25, st25⟩ := ldcS (s := s) (vm0 := T15.vm) X23 hx hz15 how15 (hw _ (List.mem_of_getElem? (i := 3) rfl)) wS e23 Si15 kz23 (g := (mkF m 90 #[.val (.long q1), .second, .val (.long q2), .second, .val (.int p3), .val (.int p4), .val (.int p5), .val (.int (1 : Int32)), .val (.long xb), .second, .val (.long yb), .second, .val (.int (1 : Int32)), .unset, .unset, .unset, .unset, .unset, .unset, .unset, .unset, .unset, .unset, .unset, .unset, .unset, .unset] [(.ref b23), (.ref b23)])) rfl (hb hby at_90) (n := 0) (by decide) (by decide) (by decide) (by decide)
  have Zs25 : n0 ≤ h25.size := Nat.le_trans Zs23 E25.1
  have EaCx := EaC.ext E25
  have FsCx := FsC.ext E25
  have F1Cx := F1C.ext E25
  have F2Cx := F2C.ext E25
  have pre26 : ∀ t, Steps p.tables e below (T25.setTop (mkF m 104 #[.val (.long q1), .second, .val (.long q2), .second, .val (.int p3), .val (.int p4), .val (.int p5), .val (.int (1 : Int32)), .val (.long xb), .second, .val (.long yb), .second, .val (.int (1 : Int32)), .unset, .unset, .unset, .unset, .unset, .unset, .unset, .unset, .unset, .unset, .unset, .unset, .unset, .unset] [(.long (2 : Int64)), (.long (((2 : Int64) * (p5.toInt64)) + (1 : Int64))), (.ref as25), (.ref b23), (.ref b23)])) t → Steps p.tables e below _ t := fun t kt => pre24 t (by
    show Steps p.tables e below (T23.setTop (mkF m 90 #[.val (.long q1), .second, .val (.long q2), .second, .val (.int p3), .val (.int p4), .val (.int p5), .val (.int (1 : Int32)), .val (.long xb), .second, .val (.long yb), .second, .val (.int (1 : Int32)), .unset, .unset, .unset, .unset, .unset, .unset, .unset, .unset, .unset, .unset, .unset, .unset, .unset, .unset] [(.ref b23), (.ref b23)])) _
    refine st25 _ ?_
    show Steps p.tables e below (T25.setTop (mkF m 92 #[.val (.long q1), .second, .val (.long q2), .second, .val (.int p3), .val (.int p4), .val (.int p5), .val (.int (1 : Int32)), .val (.long xb), .second, .val (.long yb), .second, .val (.int (1 : Int32)), .unset, .unset, .unset, .unset, .unset, .unset, .unset, .unset, .unset, .unset, .unset, .unset, .unset, .unset] [(.ref as25), (.ref b23), (.ref b23)])) _
    refine X25.ldc2Long hx how25 (mvT hz25 (hw _ (List.mem_of_getElem? (i := 33) rfl))) (g := (mkF m 92 #[.val (.long q1), .second, .val (.long q2), .second, .val (.int p3), .val (.int p4), .val (.int p5), .val (.int (1 : Int32)), .val (.long xb), .second, .val (.long yb), .second, .val (.int (1 : Int32)), .unset, .unset, .unset, .unset, .unset, .unset, .unset, .unset, .unset, .unset, .unset, .unset, .unset, .unset] [(.ref as25), (.ref b23), (.ref b23)])) rfl (hb hby at_92) _ ?_
    show Steps p.tables e below (T25.setTop (mkF m 95 #[.val (.long q1), .second, .val (.long q2), .second, .val (.int p3), .val (.int p4), .val (.int p5), .val (.int (1 : Int32)), .val (.long xb), .second, .val (.long yb), .second, .val (.int (1 : Int32)), .unset, .unset, .unset, .unset, .unset, .unset, .unset, .unset, .unset, .unset, .unset, .unset, .unset, .unset] [(.long (2 : Int64)), (.ref as25), (.ref b23), (.ref b23)])) _
    refine XS.iload X25.here hx rfl (hb hby at_95) rfl ?_
    show Steps p.tables e below (T25.setTop (mkF m 97 #[.val (.long q1), .second, .val (.long q2), .second, .val (.int p3), .val (.int p4), .val (.int p5), .val (.int (1 : Int32)), .val (.long xb), .second, .val (.long yb), .second, .val (.int (1 : Int32)), .unset, .unset, .unset, .unset, .unset, .unset, .unset, .unset, .unset, .unset, .unset, .unset, .unset, .unset] [(.int p5), (.long (2 : Int64)), (.ref as25), (.ref b23), (.ref b23)])) _
    refine XS.i2l X25.here hx rfl (hb hby at_97) rfl ?_
    show Steps p.tables e below (T25.setTop (mkF m 98 #[.val (.long q1), .second, .val (.long q2), .second, .val (.int p3), .val (.int p4), .val (.int p5), .val (.int (1 : Int32)), .val (.long xb), .second, .val (.long yb), .second, .val (.int (1 : Int32)), .unset, .unset, .unset, .unset, .unset, .unset, .unset, .unset, .unset, .unset, .unset, .unset, .unset, .unset] [(.long (p5.toInt64)), (.long (2 : Int64)), (.ref as25), (.ref b23), (.ref b23)])) _
    refine XS.lmul X25.here hx rfl (hb hby at_98) rfl ?_
    show Steps p.tables e below (T25.setTop (mkF m 99 #[.val (.long q1), .second, .val (.long q2), .second, .val (.int p3), .val (.int p4), .val (.int p5), .val (.int (1 : Int32)), .val (.long xb), .second, .val (.long yb), .second, .val (.int (1 : Int32)), .unset, .unset, .unset, .unset, .unset, .unset, .unset, .unset, .unset, .unset, .unset, .unset, .unset, .unset] [(.long ((2 : Int64) * (p5.toInt64))), (.ref as25), (.ref b23), (.ref b23)])) _
    refine XS.lconst X25.here hx rfl (hb hby at_99) ?_
    show Steps p.tables e below (T25.setTop (mkF m 100 #[.val (.long q1), .second, .val (.long q2), .second, .val (.int p3), .val (.int p4), .val (.int p5), .val (.int (1 : Int32)), .val (.long xb), .second, .val (.long yb), .second, .val (.int (1 : Int32)), .unset, .unset, .unset, .unset, .unset, .unset, .unset, .unset, .unset, .unset, .unset, .unset, .unset, .unset] [(.long (1 : Int64)), (.long ((2 : Int64) * (p5.toInt64))), (.ref as25), (.ref b23), (.ref b23)])) _
    refine XS.ladd X25.here hx rfl (hb hby at_100) rfl ?_
    show Steps p.tables e below (T25.setTop (mkF m 101 #[.val (.long q1), .second, .val (.long q2), .second, .val (.int p3), .val (.int p4), .val (.int p5), .val (.int (1 : Int32)), .val (.long xb), .second, .val (.long yb), .second, .val (.int (1 : Int32)), .unset, .unset, .unset, .unset, .unset, .unset, .unset, .unset, .unset, .unset, .unset, .unset, .unset, .unset] [(.long (((2 : Int64) * (p5.toInt64)) + (1 : Int64))), (.ref as25), (.ref b23), (.ref b23)])) _
    refine X25.ldc2Long hx how25 (mvT hz25 (hw _ (List.mem_of_getElem? (i := 33) rfl))) (g := (mkF m 101 #[.val (.long q1), .second, .val (.long q2), .second, .val (.int p3), .val (.int p4), .val (.int p5), .val (.int (1 : Int32)), .val (.long xb), .second, .val (.long yb), .second, .val (.int (1 : Int32)), .unset, .unset, .unset, .unset, .unset, .unset, .unset, .unset, .unset, .unset, .unset, .unset, .unset, .unset] [(.long (((2 : Int64) * (p5.toInt64)) + (1 : Int64))), (.ref as25), (.ref b23), (.ref b23)])) rfl (hb hby at_101) _ ?_
    exact kt)
  obtain ⟨_, _, ⟨T27, L27, k27, n27⟩, -, X27, ⟨Lc27, hQ27, l27, y27, z27⟩, st27⟩ := X25.specialBack hx (y := (⟨"canonsign/cli/SigningSpeed", "<init>", "(Ljava/lang/String;JJ)V"⟩ : MethodName)) rfl how25 (mvT hz25 (hw _ (List.mem_of_getElem? (i := 11) rfl))) (mvT hz25 (hw _ (List.mem_of_getElem? (i := 12) rfl))) (mvT hz25 (hw _ (List.mem_of_getElem? (i := 13) rfl))) (by decide) (backOf (W := 1) (rm1 l Z a0 hw [] b23 as25 (((2 : Int64) * (p5.toInt64)) + (1 : Int64)) (2 : Int64) h25 n0 Zs25 EaCx FsCx F1Cx F2Cx g_b23) hz25 (hw _ (List.mem_of_getElem? (i := 13) rfl)) (hw _ (List.mem_of_getElem? (i := 2) rfl)) (by decide) (by decide)) (g := (mkF m 104 #[.val (.long q1), .second, .val (.long q2), .second, .val (.int p3), .val (.int p4), .val (.int p5), .val (.int (1 : Int32)), .val (.long xb), .second, .val (.long yb), .second, .val (.int (1 : Int32)), .unset, .unset, .unset, .unset, .unset, .unset, .unset, .unset, .unset, .unset, .unset, .unset, .unset, .unset] [(.long (2 : Int64)), (.long (((2 : Int64) * (p5.toInt64)) + (1 : Int64))), (.ref as25), (.ref b23), (.ref b23)])) rfl (by rw [hml]; rfl) (Steps.refl _) (a := b23) (argsL := [(.ref as25), (.long (((2 : Int64) * (p5.toInt64)) + (1 : Int64))), (.long (2 : Int64))]) (rest := [(.ref b23)]) (lenOf pd_1 rfl) rfl (by show 2 * 0 + _ ≤ _; exact Nat.le_of_eq rfl) (hb hby at_104) (fun _ _ => ⟨rfl, e25, (by decide : 9 + 0 ≤ _), (by decide : 21 + 0 ≤ _)⟩)
  dsimp only [Pt.U, Pt.locs, Pt.cells, Pt.slots] at X27 l27 y27 z27 st27 hQ27
  subst l27 y27 z27
  obtain ⟨rfl, N27q, KcC, EcC, FxC, FyC⟩ := hQ27
  have N27 := Fr.app N19 N27q
  have ZcC : n0 ≤ T27.heap.size := Nat.le_trans Zs25 KcC.1
  have kcC : ks25 ≤ T27.heap.size := Nat.le_trans hk25 KcC.1
  have pre28 : ∀ t, Steps p.tables e below (T27.setTop (mkF m 107 #[.val (.long q1), .second, .val (.long q2), .second, .val (.int p3), .val (.int p4), .val (.int p5), .val (.int (1 : Int32)), .val (.long xb), .second, .val (.long yb), .second, .val (.int (1 : Int32)), .unset, .unset, .unset, .unset, .unset, .unset, .unset, .unset, .unset, .unset, .unset, .unset, .unset, .unset] [(.ref b23)])) t → Steps p.tables e below _ t := fun t kt => pre26 t (by
    show Steps p.tables e below (T25.setTop (mkF m 104 #[.val (.long q1), .second, .val (.long q2), .second, .val (.int p3), .val (.int p4), .val (.int p5), .val (.int (1 : Int32)), .val (.long xb), .second, .val (.long yb), .second, .val (.int (1 : Int32)), .unset, .unset, .unset, .unset, .unset, .unset, .unset, .unset, .unset, .unset, .unset, .unset, .unset, .unset] [(.long (2 : Int64)), (.long (((2 : Int64) * (p5.toInt64)) + (1 : Int64))), (.ref as25), (.ref b23), (.ref b23)])) _
    refine st27.trans ?_
    exact kt)
  obtain ⟨cq29, kq29, q29a, q29b, q29c⟩ := isOf hz25 rfl EcC
  obtain ⟨_, _, ⟨T29, L29, k29, n29⟩, -, X29, ⟨Lc29, hQ29, l29, y29, z29⟩, st29⟩ := X27.virtualBack hx (y := (⟨"canonsign/cli/SigningSpeed", "ratio", "()D"⟩ : MethodName)) (z := (⟨"canonsign/cli/SigningSpeed", "ratio", "()D"⟩ : MethodName)) how25 (mvT hz25 (hw _ (List.mem_of_getElem? (i := 28) rfl))) (mvT hz25 (hw _ (List.mem_of_getElem? (i := 29) rfl))) (notFace_of_selects (args := #[]) (mvT hz25 (hw _ (List.mem_of_getElem? (i := 31) rfl)))) (mvT hz25 (hw _ (List.mem_of_getElem? (i := 31) rfl))) (mvT hz25 (hw _ (List.mem_of_getElem? (i := 30) rfl))) (by decide) (backOf (W := 0) (rm4 l Z a0 hw [] b23 (((2 : Int64) * (p5.toInt64)) + (1 : Int64)) (2 : Int64) T27.heap n0 ZcC FxC FyC (by decide)) hz25 (hw _ (List.mem_of_getElem? (i := 32) rfl)) (hw _ (List.mem_of_getElem? (i := 2) rfl)) (by decide) (by decide)) q29a q29c (g := (mkF m 107 #[.val (.long q1), .second, .val (.long q2), .second, .val (.int p3), .val (.int p4), .val (.int p5), .val (.int (1 : Int32)), .val (.long xb), .second, .val (.long yb), .second, .val (.int (1 : Int32)), .unset, .unset, .unset, .unset, .unset, .unset, .unset, .unset, .unset, .unset, .unset, .unset, .unset, .unset] [(.ref b23)])) rfl (by rw [hml]; rfl) (Steps.refl _) (argsL := []) (rest := []) (lenOf pd_2 rfl) rfl (by show 2 * 0 + _ ≤ _; exact Nat.le_of_eq rfl) (hb hby at_107) (fun _ _ => ⟨rfl, rfl, (by decide : 9 + 0 ≤ _), (by decide : 21 + 0 ≤ _)⟩)
  dsimp only [Pt.U, Pt.locs, Pt.cells, Pt.slots] at X29 l29 y29 z29 st29 hQ29
  subst l29 y29 z29
  obtain ⟨rfl, N29q, e29⟩ := hQ29
  have N29 := Fr.app N27 N29q
  have pre30 : ∀ t, Steps p.tables e below (T29.setTop (mkF m 113 #[.val (.long q1), .second, .val (.long q2), .second, .val (.int p3), .val (.int p4), .val (.int p5), .val (.int (1 : Int32)), .val (.long xb), .second, .val (.long yb), .second, .val (.int (1 : Int32)), .unset, .unset, .unset, .unset, .unset, .unset, .unset, .unset, .unset, .unset, .unset, .unset, .unset, .unset] [(.double (Jvm.FP.Core.i2d p5)), (.double (Jvm.FP.Core.ddiv (Jvm.FP.Core.l2d (((2 : Int64) * (p5.toInt64)) + (1 : Int64))) (Jvm.FP.Core.l2d (2 : Int64))))])) t → Steps p.tables e below _ t := fun t kt => pre28 t (by
    show Steps p.tables e below (T27.setTop (mkF m 107 #[.val (.long q1), .second, .val (.long q2), .second, .val (.int p3), .val (.int p4), .val (.int p5), .val (.int (1 : Int32)), .val (.long xb), .second, .val (.long yb), .second, .val (.int (1 : Int32)), .unset, .unset, .unset, .unset, .unset, .unset, .unset, .unset, .unset, .unset, .unset, .unset, .unset, .unset] [(.ref b23)])) _
    refine st29.trans ?_
    show Steps p.tables e below (T29.setTop (mkF m 110 #[.val (.long q1), .second, .val (.long q2), .second, .val (.int p3), .val (.int p4), .val (.int p5), .val (.int (1 : Int32)), .val (.long xb), .second, .val (.long yb), .second, .val (.int (1 : Int32)), .unset, .unset, .unset, .unset, .unset, .unset, .unset, .unset, .unset, .unset, .unset, .unset, .unset, .unset] [(.double (Jvm.FP.Core.ddiv (Jvm.FP.Core.l2d (((2 : Int64) * (p5.toInt64)) + (1 : Int64))) (Jvm.FP.Core.l2d (2 : Int64))))])) _
    refine XS.iload X29.here hx rfl (hb hby at_110) rfl ?_
    show Steps p.tables e below (T29.setTop (mkF m 112 #[.val (.long q1), .second, .val (.long q2), .second, .val (.int p3), .val (.int p4), .val (.int p5), .val (.int (1 : Int32)), .val (.long xb), .second, .val (.long yb), .second, .val (.int (1 : Int32)), .unset, .unset, .unset, .unset, .unset, .unset, .unset, .unset, .unset, .unset, .unset, .unset, .unset, .unset] [(.int p5), (.double (Jvm.FP.Core.ddiv (Jvm.FP.Core.l2d (((2 : Int64) * (p5.toInt64)) + (1 : Int64))) (Jvm.FP.Core.l2d (2 : Int64))))])) _
    refine XS.i2dS X29.here hx rfl (hb hby at_112) rfl rfl ?_
    exact kt)
  have pre31 : ∀ t, Steps p.tables e below (T29.setTop (mkF m 118 #[.val (.long q1), .second, .val (.long q2), .second, .val (.int p3), .val (.int p4), .val (.int p5), .val (.int (1 : Int32)), .val (.long xb), .second, .val (.long yb), .second, .val (.int (1 : Int32)), .unset, .unset, .unset, .unset, .unset, .unset, .unset, .unset, .unset, .unset, .unset, .unset, .unset, .unset] [(.int (cmpValue (Jvm.FP.Core.dcmp (Jvm.FP.Core.ddiv (Jvm.FP.Core.l2d (((2 : Int64) * (p5.toInt64)) + (1 : Int64))) (Jvm.FP.Core.l2d (2 : Int64))) (Jvm.FP.Core.dadd (Jvm.FP.Core.i2d p5) own_half64)) .l))])) t → Steps p.tables e below _ t := fun t kt => pre30 t (by
    show Steps p.tables e below (T29.setTop (mkF m 113 #[.val (.long q1), .second, .val (.long q2), .second, .val (.int p3), .val (.int p4), .val (.int p5), .val (.int (1 : Int32)), .val (.long xb), .second, .val (.long yb), .second, .val (.int (1 : Int32)), .unset, .unset, .unset, .unset, .unset, .unset, .unset, .unset, .unset, .unset, .unset, .unset, .unset, .unset] [(.double (Jvm.FP.Core.i2d p5)), (.double (Jvm.FP.Core.ddiv (Jvm.FP.Core.l2d (((2 : Int64) * (p5.toInt64)) + (1 : Int64))) (Jvm.FP.Core.l2d (2 : Int64))))])) _
    refine X29.ldc2DoubleC hx how25 (mvT hz25 (hw _ (List.mem_of_getElem? (i := 34) rfl))) (g := (mkF m 113 #[.val (.long q1), .second, .val (.long q2), .second, .val (.int p3), .val (.int p4), .val (.int p5), .val (.int (1 : Int32)), .val (.long xb), .second, .val (.long yb), .second, .val (.int (1 : Int32)), .unset, .unset, .unset, .unset, .unset, .unset, .unset, .unset, .unset, .unset, .unset, .unset, .unset, .unset] [(.double (Jvm.FP.Core.i2d p5)), (.double (Jvm.FP.Core.ddiv (Jvm.FP.Core.l2d (((2 : Int64) * (p5.toInt64)) + (1 : Int64))) (Jvm.FP.Core.l2d (2 : Int64))))])) rfl (hb hby at_113) _ ?_
    show Steps p.tables e below (T29.setTop (mkF m 116 #[.val (.long q1), .second, .val (.long q2), .second, .val (.int p3), .val (.int p4), .val (.int p5), .val (.int (1 : Int32)), .val (.long xb), .second, .val (.long yb), .second, .val (.int (1 : Int32)), .unset, .unset, .unset, .unset, .unset, .unset, .unset, .unset, .unset, .unset, .unset, .unset, .unset, .unset] [(.double own_half64), (.double (Jvm.FP.Core.i2d p5)), (.double (Jvm.FP.Core.ddiv (Jvm.FP.Core.l2d (((2 : Int64) * (p5.toInt64)) + (1 : Int64))) (Jvm.FP.Core.l2d (2 : Int64))))])) _
    refine XS.daddS X29.here hx rfl (hb hby at_116) rfl (own_nnadd (own_odd p5)) rfl ?_
    show Steps p.tables e below (T29.setTop (mkF m 117 #[.val (.long q1), .second, .val (.long q2), .second, .val (.int p3), .val (.int p4), .val (.int p5), .val (.int (1 : Int32)), .val (.long xb), .second, .val (.long yb), .second, .val (.int (1 : Int32)), .unset, .unset, .unset, .unset, .unset, .unset, .unset, .unset, .unset, .unset, .unset, .unset, .unset, .unset] [(.double (Jvm.FP.Core.dadd (Jvm.FP.Core.i2d p5) own_half64)), (.double (Jvm.FP.Core.ddiv (Jvm.FP.Core.l2d (((2 : Int64) * (p5.toInt64)) + (1 : Int64))) (Jvm.FP.Core.l2d (2 : Int64))))])) _
    refine XS.dcmpS X29.here hx rfl (hb hby at_117) rfl rfl ?_
    exact kt)
  have hv32 : (cmpValue (Jvm.FP.Core.dcmp (Jvm.FP.Core.ddiv (Jvm.FP.Core.l2d (((2 : Int64) * (p5.toInt64)) + (1 : Int64))) (Jvm.FP.Core.l2d (2 : Int64))) (Jvm.FP.Core.dadd (Jvm.FP.Core.i2d p5) own_half64)) .l) = (0 : Int32) := congrArg (fun o => cmpValue o .l) (own_halves (own_odd p5))
  rw [hv32] at pre31
  have pre33 : ∀ t, Steps p.tables e below (T29.setTop (mkF m 146 #[.val (.long q1), .second, .val (.long q2), .second, .val (.int p3), .val (.int p4), .val (.int p5), .val (.int (1 : Int32)), .val (.long xb), .second, .val (.long yb), .second, .val (.int (1 : Int32)), .val (.int (1 : Int32)), .val (.long (q1 &&& (9223372036854775807 : Int64))), .second, .val (.long (q2 &&& (9223372036854775807 : Int64))), .second, .unset, .unset, .unset, .unset, .unset, .unset, .unset, .unset, .unset] [(.long (q2 &&& (9223372036854775807 : Int64))), (.long (q1 &&& (9223372036854775807 : Int64)))])) t → Steps p.tables e below _ t := fun t kt => pre31 t (by
    have hc118 : (0 : Int32) = (0 : Int32) := rfl
    show Steps p.tables e below (T29.setTop (mkF m 118 #[.val (.long q1), .second, .val (.long q2), .second, .val (.int p3), .val (.int p4), .val (.int p5), .val (.int (1 : Int32)), .val (.long xb), .second, .val (.long yb), .second, .val (.int (1 : Int32)), .unset, .unset, .unset, .unset, .unset, .unset, .unset, .unset, .unset, .unset, .unset, .unset, .unset, .unset] [(.int (0 : Int32))])) _
    refine XS.ifNo X29.here hx rfl (hb hby at_118) rfl ((if0 _ _).trans (teq hc118).2) ?_
    show Steps p.tables e below (T29.setTop (mkF m 121 #[.val (.long q1), .second, .val (.long q2), .second, .val (.int p3), .val (.int p4), .val (.int p5), .val (.int (1 : Int32)), .val (.long xb), .second, .val (.long yb), .second, .val (.int (1 : Int32)), .unset, .unset, .unset, .unset, .unset, .unset, .unset, .unset, .unset, .unset, .unset, .unset, .unset, .unset] [])) _
    refine XS.iconst X29.here hx rfl (hb hby at_121) ?_
    show Steps p.tables e below (T29.setTop (mkF m 122 #[.val (.long q1), .second, .val (.long q2), .second, .val (.int p3), .val (.int p4), .val (.int p5), .val (.int (1 : Int32)), .val (.long xb), .second, .val (.long yb), .second, .val (.int (1 : Int32)), .unset, .unset, .unset, .unset, .unset, .unset, .unset, .unset, .unset, .unset, .unset, .unset, .unset, .unset] [(.int (1 : Int32))])) _
    refine XS.goto X29.here hx rfl (pc0 := 122) (pc' := 126) rfl (hb hby at_122) (by decide) (by decide) ?_
    show Steps p.tables e below (T29.setTop (mkF m 126 #[.val (.long q1), .second, .val (.long q2), .second, .val (.int p3), .val (.int p4), .val (.int p5), .val (.int (1 : Int32)), .val (.long xb), .second, .val (.long yb), .second, .val (.int (1 : Int32)), .unset, .unset, .unset, .unset, .unset, .unset, .unset, .unset, .unset, .unset, .unset, .unset, .unset, .unset] [(.int (1 : Int32))])) _
    refine XS.istore X29.here hx rfl (hb hby at_126) rfl (l' := #[.val (.long q1), .second, .val (.long q2), .second, .val (.int p3), .val (.int p4), .val (.int p5), .val (.int (1 : Int32)), .val (.long xb), .second, .val (.long yb), .second, .val (.int (1 : Int32)), .val (.int (1 : Int32)), .unset, .unset, .unset, .unset, .unset, .unset, .unset, .unset, .unset, .unset, .unset, .unset, .unset]) rfl ?_
    show Steps p.tables e below (T29.setTop (mkF m 128 #[.val (.long q1), .second, .val (.long q2), .second, .val (.int p3), .val (.int p4), .val (.int p5), .val (.int (1 : Int32)), .val (.long xb), .second, .val (.long yb), .second, .val (.int (1 : Int32)), .val (.int (1 : Int32)), .unset, .unset, .unset, .unset, .unset, .unset, .unset, .unset, .unset, .unset, .unset, .unset, .unset] [])) _
    refine XS.lloadN X29.here hx rfl (hb hby at_128) rfl ?_
    show Steps p.tables e below (T29.setTop (mkF m 129 #[.val (.long q1), .second, .val (.long q2), .second, .val (.int p3), .val (.int p4), .val (.int p5), .val (.int (1 : Int32)), .val (.long xb), .second, .val (.long yb), .second, .val (.int (1 : Int32)), .val (.int (1 : Int32)), .unset, .unset, .unset, .unset, .unset, .unset, .unset, .unset, .unset, .unset, .unset, .unset, .unset] [(.long q1)])) _
    refine X29.ldc2Long hx how25 (mvT hz25 (hw _ (List.mem_of_getElem? (i := 35) rfl))) (g := (mkF m 129 #[.val (.long q1), .second, .val (.long q2), .second, .val (.int p3), .val (.int p4), .val (.int p5), .val (.int (1 : Int32)), .val (.long xb), .second, .val (.long yb), .second, .val (.int (1 : Int32)), .val (.int (1 : Int32)), .unset, .unset, .unset, .unset, .unset, .unset, .unset, .unset, .unset, .unset, .unset, .unset, .unset] [(.long q1)])) rfl (hb hby at_129) _ ?_
    show Steps p.tables e below (T29.setTop (mkF m 132 #[.val (.long q1), .second, .val (.long q2), .second, .val (.int p3), .val (.int p4), .val (.int p5), .val (.int (1 : Int32)), .val (.long xb), .second, .val (.long yb), .second, .val (.int (1 : Int32)), .val (.int (1 : Int32)), .unset, .unset, .unset, .unset, .unset, .unset, .unset, .unset, .unset, .unset, .unset, .unset, .unset] [(.long (9223372036854775807 : Int64)), (.long q1)])) _
    refine XS.land X29.here hx rfl (hb hby at_132) rfl ?_
    show Steps p.tables e below (T29.setTop (mkF m 133 #[.val (.long q1), .second, .val (.long q2), .second, .val (.int p3), .val (.int p4), .val (.int p5), .val (.int (1 : Int32)), .val (.long xb), .second, .val (.long yb), .second, .val (.int (1 : Int32)), .val (.int (1 : Int32)), .unset, .unset, .unset, .unset, .unset, .unset, .unset, .unset, .unset, .unset, .unset, .unset, .unset] [(.long (q1 &&& (9223372036854775807 : Int64)))])) _
    refine XS.lstore X29.here hx rfl (hb hby at_133) rfl (l' := #[.val (.long q1), .second, .val (.long q2), .second, .val (.int p3), .val (.int p4), .val (.int p5), .val (.int (1 : Int32)), .val (.long xb), .second, .val (.long yb), .second, .val (.int (1 : Int32)), .val (.int (1 : Int32)), .val (.long (q1 &&& (9223372036854775807 : Int64))), .second, .unset, .unset, .unset, .unset, .unset, .unset, .unset, .unset, .unset, .unset, .unset]) rfl ?_
    show Steps p.tables e below (T29.setTop (mkF m 135 #[.val (.long q1), .second, .val (.long q2), .second, .val (.int p3), .val (.int p4), .val (.int p5), .val (.int (1 : Int32)), .val (.long xb), .second, .val (.long yb), .second, .val (.int (1 : Int32)), .val (.int (1 : Int32)), .val (.long (q1 &&& (9223372036854775807 : Int64))), .second, .unset, .unset, .unset, .unset, .unset, .unset, .unset, .unset, .unset, .unset, .unset] [])) _
    refine XS.lloadN X29.here hx rfl (hb hby at_135) rfl ?_
    show Steps p.tables e below (T29.setTop (mkF m 136 #[.val (.long q1), .second, .val (.long q2), .second, .val (.int p3), .val (.int p4), .val (.int p5), .val (.int (1 : Int32)), .val (.long xb), .second, .val (.long yb), .second, .val (.int (1 : Int32)), .val (.int (1 : Int32)), .val (.long (q1 &&& (9223372036854775807 : Int64))), .second, .unset, .unset, .unset, .unset, .unset, .unset, .unset, .unset, .unset, .unset, .unset] [(.long q2)])) _
    refine X29.ldc2Long hx how25 (mvT hz25 (hw _ (List.mem_of_getElem? (i := 35) rfl))) (g := (mkF m 136 #[.val (.long q1), .second, .val (.long q2), .second, .val (.int p3), .val (.int p4), .val (.int p5), .val (.int (1 : Int32)), .val (.long xb), .second, .val (.long yb), .second, .val (.int (1 : Int32)), .val (.int (1 : Int32)), .val (.long (q1 &&& (9223372036854775807 : Int64))), .second, .unset, .unset, .unset, .unset, .unset, .unset, .unset, .unset, .unset, .unset, .unset] [(.long q2)])) rfl (hb hby at_136) _ ?_
    show Steps p.tables e below (T29.setTop (mkF m 139 #[.val (.long q1), .second, .val (.long q2), .second, .val (.int p3), .val (.int p4), .val (.int p5), .val (.int (1 : Int32)), .val (.long xb), .second, .val (.long yb), .second, .val (.int (1 : Int32)), .val (.int (1 : Int32)), .val (.long (q1 &&& (9223372036854775807 : Int64))), .second, .unset, .unset, .unset, .unset, .unset, .unset, .unset, .unset, .unset, .unset, .unset] [(.long (9223372036854775807 : Int64)), (.long q2)])) _
    refine XS.land X29.here hx rfl (hb hby at_139) rfl ?_
    show Steps p.tables e below (T29.setTop (mkF m 140 #[.val (.long q1), .second, .val (.long q2), .second, .val (.int p3), .val (.int p4), .val (.int p5), .val (.int (1 : Int32)), .val (.long xb), .second, .val (.long yb), .second, .val (.int (1 : Int32)), .val (.int (1 : Int32)), .val (.long (q1 &&& (9223372036854775807 : Int64))), .second, .unset, .unset, .unset, .unset, .unset, .unset, .unset, .unset, .unset, .unset, .unset] [(.long (q2 &&& (9223372036854775807 : Int64)))])) _
    refine XS.lstore X29.here hx rfl (hb hby at_140) rfl (l' := #[.val (.long q1), .second, .val (.long q2), .second, .val (.int p3), .val (.int p4), .val (.int p5), .val (.int (1 : Int32)), .val (.long xb), .second, .val (.long yb), .second, .val (.int (1 : Int32)), .val (.int (1 : Int32)), .val (.long (q1 &&& (9223372036854775807 : Int64))), .second, .val (.long (q2 &&& (9223372036854775807 : Int64))), .second, .unset, .unset, .unset, .unset, .unset, .unset, .unset, .unset, .unset]) rfl ?_
    show Steps p.tables e below (T29.setTop (mkF m 142 #[.val (.long q1), .second, .val (.long q2), .second, .val (.int p3), .val (.int p4), .val (.int p5), .val (.int (1 : Int32)), .val (.long xb), .second, .val (.long yb), .second, .val (.int (1 : Int32)), .val (.int (1 : Int32)), .val (.long (q1 &&& (9223372036854775807 : Int64))), .second, .val (.long (q2 &&& (9223372036854775807 : Int64))), .second, .unset, .unset, .unset, .unset, .unset, .unset, .unset, .unset, .unset] [])) _
    refine XS.lload X29.here hx rfl (hb hby at_142) rfl ?_
    show Steps p.tables e below (T29.setTop (mkF m 144 #[.val (.long q1), .second, .val (.long q2), .second, .val (.int p3), .val (.int p4), .val (.int p5), .val (.int (1 : Int32)), .val (.long xb), .second, .val (.long yb), .second, .val (.int (1 : Int32)), .val (.int (1 : Int32)), .val (.long (q1 &&& (9223372036854775807 : Int64))), .second, .val (.long (q2 &&& (9223372036854775807 : Int64))), .second, .unset, .unset, .unset, .unset, .unset, .unset, .unset, .unset, .unset] [(.long (q1 &&& (9223372036854775807 : Int64)))])) _
    refine XS.lload X29.here hx rfl (hb hby at_144) rfl ?_
    exact kt)
  obtain ⟨_, _, ⟨T34, L34, k34, n34⟩, -, X34, ⟨Lc34, hQ34, l34, y34, z34⟩, st34⟩ := Jvm.LawKit.callS X29 hx (y := (⟨"java/lang/Math", "min", "(JJ)J"⟩ : MethodName)) how25 (mvT hz25 (hw _ (List.mem_of_getElem? (i := 36) rfl))) (mvT hz25 (hw _ (List.mem_of_getElem? (i := 37) rfl))) (mvT hz25 (hw _ (List.mem_of_getElem? (i := 38) rfl))) (mvT hz25 (hw _ (List.mem_of_getElem? (i := 39) rfl))) (by decide) (backOf (W := 0) (rm5 l Z a0 hw [] (q1 &&& (9223372036854775807 : Int64)) (q2 &&& (9223372036854775807 : Int64)) T27.heap n0 ZcC) hz25 (hw _ (List.mem_of_getElem? (i := 39) rfl)) (hw _ (List.mem_of_getElem? (i := 38) rfl)) (by decide) (by decide)) (g := (mkF m 146 #[.val (.long q1), .second, .val (.long q2), .second, .val (.int p3), .val (.int p4), .val (.int p5), .val (.int (1 : Int32)), .val (.long xb), .second, .val (.long yb), .second, .val (.int (1 : Int32)), .val (.int (1 : Int32)), .val (.long (q1 &&& (9223372036854775807 : Int64))), .second, .val (.long (q2 &&& (9223372036854775807 : Int64))), .second, .unset, .unset, .unset, .unset, .unset, .unset, .unset, .unset, .unset] [(.long (q2 &&& (9223372036854775807 : Int64))), (.long (q1 &&& (9223372036854775807 : Int64)))])) rfl (by rw [hml]; rfl) (argsL := [(.long (q1 &&& (9223372036854775807 : Int64))), (.long (q2 &&& (9223372036854775807 : Int64)))]) (rest := []) (lenOf pd_3 rfl) rfl (by show 2 * 0 + _ ≤ _; exact Nat.le_of_eq rfl) (hb hby at_146) (fun _ _ => ⟨rfl, e29, (by decide : 9 + 0 ≤ _), (by decide : 21 + 0 ≤ _)⟩)
  dsimp only [Pt.U, Pt.locs, Pt.cells, Pt.slots] at X34 l34 y34 z34 st34 hQ34
  subst l34 y34 z34
  obtain ⟨rfl, N34q, e34⟩ := hQ34
  have N34 := Fr.app N29 N34q
  have pre35 : ∀ t, Steps p.tables e below (T34.setTop (mkF m 155 #[.val (.long q1), .second, .val (.long q2), .second, .val (.int p3), .val (.int p4), .val (.int p5), .val (.int (1 : Int32)), .val (.long xb), .second, .val (.long yb), .second, .val (.int (1 : Int32)), .val (.int (1 : Int32)), .val (.long (q1 &&& (9223372036854775807 : Int64))), .second, .val (.long (q2 &&& (9223372036854775807 : Int64))), .second, .val (.long (own_min (q1 &&& (9223372036854775807 : Int64)) (q2 &&& (9223372036854775807 : Int64)))), .second, .unset, .unset, .unset, .unset, .unset, .unset, .unset] [(.long (q2 &&& (9223372036854775807 : Int64))), (.long (q1 &&& (9223372036854775807 : Int64)))])) t → Steps p.tables e below _ t := fun t kt => pre33 t (by
    show Steps p.tables e below (T29.setTop (mkF m 146 #[.val (.long q1), .second, .val (.long q2), .second, .val (.int p3), .val (.int p4), .val (.int p5), .val (.int (1 : Int32)), .val (.long xb), .second, .val (.long yb), .second, .val (.int (1 : Int32)), .val (.int (1 : Int32)), .val (.long (q1 &&& (9223372036854775807 : Int64))), .second, .val (.long (q2 &&& (9223372036854775807 : Int64))), .second, .unset, .unset, .unset, .unset, .unset, .unset, .unset, .unset, .unset] [(.long (q2 &&& (9223372036854775807 : Int64))), (.long (q1 &&& (9223372036854775807 : Int64)))])) _
    refine st34 _ ?_
    show Steps p.tables e below (T34.setTop (mkF m 149 #[.val (.long q1), .second, .val (.long q2), .second, .val (.int p3), .val (.int p4), .val (.int p5), .val (.int (1 : Int32)), .val (.long xb), .second, .val (.long yb), .second, .val (.int (1 : Int32)), .val (.int (1 : Int32)), .val (.long (q1 &&& (9223372036854775807 : Int64))), .second, .val (.long (q2 &&& (9223372036854775807 : Int64))), .second, .unset, .unset, .unset, .unset, .unset, .unset, .unset, .unset, .unset] [(.long (own_min (q1 &&& (9223372036854775807 : Int64)) (q2 &&& (9223372036854775807 : Int64))))])) _
    refine XS.lstore X34.here hx rfl (hb hby at_149) rfl (l' := #[.val (.long q1), .second, .val (.long q2), .second, .val (.int p3), .val (.int p4), .val (.int p5), .val (.int (1 : Int32)), .val (.long xb), .second, .val (.long yb), .second, .val (.int (1 : Int32)), .val (.int (1 : Int32)), .val (.long (q1 &&& (9223372036854775807 : Int64))), .second, .val (.long (q2 &&& (9223372036854775807 : Int64))), .second, .val (.long (own_min (q1 &&& (9223372036854775807 : Int64)) (q2 &&& (9223372036854775807 : Int64)))), .second, .unset, .unset, .unset, .unset, .unset, .unset, .unset]) rfl ?_
    show Steps p.tables e below (T34.setTop (mkF m 151 #[.val (.long q1), .second, .val (.long q2), .second, .val (.int p3), .val (.int p4), .val (.int p5), .val (.int (1 : Int32)), .val (.long xb), .second, .val (.long yb), .second, .val (.int (1 : Int32)), .val (.int (1 : Int32)), .val (.long (q1 &&& (9223372036854775807 : Int64))), .second, .val (.long (q2 &&& (9223372036854775807 : Int64))), .second, .val (.long (own_min (q1 &&& (9223372036854775807 : Int64)) (q2 &&& (9223372036854775807 : Int64)))), .second, .unset, .unset, .unset, .unset, .unset, .unset, .unset] [])) _
    refine XS.lload X34.here hx rfl (hb hby at_151) rfl ?_
    show Steps p.tables e below (T34.setTop (mkF m 153 #[.val (.long q1), .second, .val (.long q2), .second, .val (.int p3), .val (.int p4), .val (.int p5), .val (.int (1 : Int32)), .val (.long xb), .second, .val (.long yb), .second, .val (.int (1 : Int32)), .val (.int (1 : Int32)), .val (.long (q1 &&& (9223372036854775807 : Int64))), .second, .val (.long (q2 &&& (9223372036854775807 : Int64))), .second, .val (.long (own_min (q1 &&& (9223372036854775807 : Int64)) (q2 &&& (9223372036854775807 : Int64)))), .second, .unset, .unset, .unset, .unset, .unset, .unset, .unset] [(.long (q1 &&& (9223372036854775807 : Int64)))])) _
    refine XS.lload X34.here hx rfl (hb hby at_153) rfl ?_
    exact kt)
  obtain ⟨_, _, ⟨T36, L36, k36, n36⟩, -, X36, ⟨Lc36, hQ36, l36, y36, z36⟩, st36⟩ := Jvm.LawKit.callS X34 hx (y := (⟨"java/lang/Math", "max", "(JJ)J"⟩ : MethodName)) how25 (mvT hz25 (hw _ (List.mem_of_getElem? (i := 40) rfl))) (mvT hz25 (hw _ (List.mem_of_getElem? (i := 41) rfl))) (mvT hz25 (hw _ (List.mem_of_getElem? (i := 38) rfl))) (mvT hz25 (hw _ (List.mem_of_getElem? (i := 42) rfl))) (by decide) (backOf (W := 0) (rm6 l Z a0 hw [] (q1 &&& (9223372036854775807 : Int64)) (q2 &&& (9223372036854775807 : Int64)) T27.heap n0 ZcC) hz25 (hw _ (List.mem_of_getElem? (i := 42) rfl)) (hw _ (List.mem_of_getElem? (i := 38) rfl)) (by decide) (by decide)) (g := (mkF m 155 #[.val (.long q1), .second, .val (.long q2), .second, .val (.int p3), .val (.int p4), .val (.int p5), .val (.int (1 : Int32)), .val (.long xb), .second, .val (.long yb), .second, .val (.int (1 : Int32)), .val (.int (1 : Int32)), .val (.long (q1 &&& (9223372036854775807 : Int64))), .second, .val (.long (q2 &&& (9223372036854775807 : Int64))), .second, .val (.long (own_min (q1 &&& (9223372036854775807 : Int64)) (q2 &&& (9223372036854775807 : Int64)))), .second, .unset, .unset, .unset, .unset, .unset, .unset, .unset] [(.long (q2 &&& (9223372036854775807 : Int64))), (.long (q1 &&& (9223372036854775807 : Int64)))])) rfl (by rw [hml]; rfl) (argsL := [(.long (q1 &&& (9223372036854775807 : Int64))), (.long (q2 &&& (9223372036854775807 : Int64)))]) (rest := []) (lenOf pd_3 rfl) rfl (by show 2 * 0 + _ ≤ _; exact Nat.le_of_eq rfl) (hb hby at_155) (fun _ _ => ⟨rfl, e34, (by decide : 9 + 0 ≤ _), (by decide : 21 + 0 ≤ _)⟩)
  dsimp only [Pt.U, Pt.locs, Pt.cells, Pt.slots] at X36 l36 y36 z36 st36 hQ36
  subst l36 y36 z36
  obtain ⟨rfl, N36q, e36⟩ := hQ36
  have N36 := Fr.app N34 N36q
  have pre37 : ∀ t, Steps p.tables e below (T36.setTop (mkF m 163 #[.val (.long q1), .second, .val (.long q2), .second, .val (.int p3), .val (.int p4), .val (.int p5), .val (.int (1 : Int32)), .val (.long xb), .second, .val (.long yb), .second, .val (.int (1 : Int32)), .val (.int (1 : Int32)), .val (.long (q1 &&& (9223372036854775807 : Int64))), .second, .val (.long (q2 &&& (9223372036854775807 : Int64))), .second, .val (.long (own_min (q1 &&& (9223372036854775807 : Int64)) (q2 &&& (9223372036854775807 : Int64)))), .second, .val (.long (own_max (q1 &&& (9223372036854775807 : Int64)) (q2 &&& (9223372036854775807 : Int64)))), .second, .val (.int (1 : Int32)), .unset, .unset, .unset, .unset] [])) t → Steps p.tables e below _ t := fun t kt => pre35 t (by
    show Steps p.tables e below (T34.setTop (mkF m 155 #[.val (.long q1), .second, .val (.long q2), .second, .val (.int p3), .val (.int p4), .val (.int p5), .val (.int (1 : Int32)), .val (.long xb), .second, .val (.long yb), .second, .val (.int (1 : Int32)), .val (.int (1 : Int32)), .val (.long (q1 &&& (9223372036854775807 : Int64))), .second, .val (.long (q2 &&& (9223372036854775807 : Int64))), .second, .val (.long (own_min (q1 &&& (9223372036854775807 : Int64)) (q2 &&& (9223372036854775807 : Int64)))), .second, .unset, .unset, .unset, .unset, .unset, .unset, .unset] [(.long (q2 &&& (9223372036854775807 : Int64))), (.long (q1 &&& (9223372036854775807 : Int64)))])) _
    refine st36 _ ?_
    show Steps p.tables e below (T36.setTop (mkF m 158 #[.val (.long q1), .second, .val (.long q2), .second, .val (.int p3), .val (.int p4), .val (.int p5), .val (.int (1 : Int32)), .val (.long xb), .second, .val (.long yb), .second, .val (.int (1 : Int32)), .val (.int (1 : Int32)), .val (.long (q1 &&& (9223372036854775807 : Int64))), .second, .val (.long (q2 &&& (9223372036854775807 : Int64))), .second, .val (.long (own_min (q1 &&& (9223372036854775807 : Int64)) (q2 &&& (9223372036854775807 : Int64)))), .second, .unset, .unset, .unset, .unset, .unset, .unset, .unset] [(.long (own_max (q1 &&& (9223372036854775807 : Int64)) (q2 &&& (9223372036854775807 : Int64))))])) _
    refine XS.lstore X36.here hx rfl (hb hby at_158) rfl (l' := #[.val (.long q1), .second, .val (.long q2), .second, .val (.int p3), .val (.int p4), .val (.int p5), .val (.int (1 : Int32)), .val (.long xb), .second, .val (.long yb), .second, .val (.int (1 : Int32)), .val (.int (1 : Int32)), .val (.long (q1 &&& (9223372036854775807 : Int64))), .second, .val (.long (q2 &&& (9223372036854775807 : Int64))), .second, .val (.long (own_min (q1 &&& (9223372036854775807 : Int64)) (q2 &&& (9223372036854775807 : Int64)))), .second, .val (.long (own_max (q1 &&& (9223372036854775807 : Int64)) (q2 &&& (9223372036854775807 : Int64)))), .second, .unset, .unset, .unset, .unset, .unset]) rfl ?_
    show Steps p.tables e below (T36.setTop (mkF m 160 #[.val (.long q1), .second, .val (.long q2), .second, .val (.int p3), .val (.int p4), .val (.int p5), .val (.int (1 : Int32)), .val (.long xb), .second, .val (.long yb), .second, .val (.int (1 : Int32)), .val (.int (1 : Int32)), .val (.long (q1 &&& (9223372036854775807 : Int64))), .second, .val (.long (q2 &&& (9223372036854775807 : Int64))), .second, .val (.long (own_min (q1 &&& (9223372036854775807 : Int64)) (q2 &&& (9223372036854775807 : Int64)))), .second, .val (.long (own_max (q1 &&& (9223372036854775807 : Int64)) (q2 &&& (9223372036854775807 : Int64)))), .second, .unset, .unset, .unset, .unset, .unset] [])) _
    refine XS.iconst X36.here hx rfl (hb hby at_160) ?_
    show Steps p.tables e below (T36.setTop (mkF m 161 #[.val (.long q1), .second, .val (.long q2), .second, .val (.int p3), .val (.int p4), .val (.int p5), .val (.int (1 : Int32)), .val (.long xb), .second, .val (.long yb), .second, .val (.int (1 : Int32)), .val (.int (1 : Int32)), .val (.long (q1 &&& (9223372036854775807 : Int64))), .second, .val (.long (q2 &&& (9223372036854775807 : Int64))), .second, .val (.long (own_min (q1 &&& (9223372036854775807 : Int64)) (q2 &&& (9223372036854775807 : Int64)))), .second, .val (.long (own_max (q1 &&& (9223372036854775807 : Int64)) (q2 &&& (9223372036854775807 : Int64)))), .second, .unset, .unset, .unset, .unset, .unset] [(.int (1 : Int32))])) _
    refine XS.istore X36.here hx rfl (hb hby at_161) rfl (l' := #[.val (.long q1), .second, .val (.long q2), .second, .val (.int p3), .val (.int p4), .val (.int p5), .val (.int (1 : Int32)), .val (.long xb), .second, .val (.long yb), .second, .val (.int (1 : Int32)), .val (.int (1 : Int32)), .val (.long (q1 &&& (9223372036854775807 : Int64))), .second, .val (.long (q2 &&& (9223372036854775807 : Int64))), .second, .val (.long (own_min (q1 &&& (9223372036854775807 : Int64)) (q2 &&& (9223372036854775807 : Int64)))), .second, .val (.long (own_max (q1 &&& (9223372036854775807 : Int64)) (q2 &&& (9223372036854775807 : Int64)))), .second, .val (.int (1 : Int32)), .unset, .unset, .unset, .unset]) rfl ?_
    exact kt)
  obtain ⟨lo, hlo⟩ : ∃ z : Int64, z = (own_min (q1 &&& (9223372036854775807 : Int64)) (q2 &&& (9223372036854775807 : Int64))) := ⟨_, rfl⟩
  rw [← hlo] at pre37
  obtain ⟨hi, hhi⟩ : ∃ z : Int64, z = (own_max (q1 &&& (9223372036854775807 : Int64)) (q2 &&& (9223372036854775807 : Int64))) := ⟨_, rfl⟩
  rw [← hhi] at pre37
  have hlh : lo.toInt ≤ hi.toInt := by rw [hlo, hhi]; exact own_minmax _ _
  have pre38 : ∀ t, Steps p.tables e below (T36.setTop (mkF m 167 #[.val (.long q1), .second, .val (.long q2), .second, .val (.int p3), .val (.int p4), .val (.int p5), .val (.int (1 : Int32)), .val (.long xb), .second, .val (.long yb), .second, .val (.int (1 : Int32)), .val (.int (1 : Int32)), .val (.long (q1 &&& (9223372036854775807 : Int64))), .second, .val (.long (q2 &&& (9223372036854775807 : Int64))), .second, .val (.long lo), .second, .val (.long hi), .second, .val (.int (1 : Int32)), .unset, .unset, .unset, .unset] [(.int (lcmpW lo (0 : Int64)))])) t → Steps p.tables e below _ t := fun t kt => pre37 t (by
    show Steps p.tables e below (T36.setTop (mkF m 163 #[.val (.long q1), .second, .val (.long q2), .second, .val (.int p3), .val (.int p4), .val (.int p5), .val (.int (1 : Int32)), .val (.long xb), .second, .val (.long yb), .second, .val (.int (1 : Int32)), .val (.int (1 : Int32)), .val (.long (q1 &&& (9223372036854775807 : Int64))), .second, .val (.long (q2 &&& (9223372036854775807 : Int64))), .second, .val (.long lo), .second, .val (.long hi), .second, .val (.int (1 : Int32)), .unset, .unset, .unset, .unset] [])) _
    refine XS.lload X36.here hx rfl (hb hby at_163) rfl ?_
    show Steps p.tables e below (T36.setTop (mkF m 165 #[.val (.long q1), .second, .val (.long q2), .second, .val (.int p3), .val (.int p4), .val (.int p5), .val (.int (1 : Int32)), .val (.long xb), .second, .val (.long yb), .second, .val (.int (1 : Int32)), .val (.int (1 : Int32)), .val (.long (q1 &&& (9223372036854775807 : Int64))), .second, .val (.long (q2 &&& (9223372036854775807 : Int64))), .second, .val (.long lo), .second, .val (.long hi), .second, .val (.int (1 : Int32)), .unset, .unset, .unset, .unset] [(.long lo)])) _
    refine XS.lconst X36.here hx rfl (hb hby at_165) ?_
    show Steps p.tables e below (T36.setTop (mkF m 166 #[.val (.long q1), .second, .val (.long q2), .second, .val (.int p3), .val (.int p4), .val (.int p5), .val (.int (1 : Int32)), .val (.long xb), .second, .val (.long yb), .second, .val (.int (1 : Int32)), .val (.int (1 : Int32)), .val (.long (q1 &&& (9223372036854775807 : Int64))), .second, .val (.long (q2 &&& (9223372036854775807 : Int64))), .second, .val (.long lo), .second, .val (.long hi), .second, .val (.int (1 : Int32)), .unset, .unset, .unset, .unset] [(.long (0 : Int64)), (.long lo)])) _
    refine XS.lcmp X36.here hx rfl (hb hby at_166) rfl ?_
    exact kt)
  by_cases hc167 : (0 : Int32) < (lcmpW lo (0 : Int64))
  · have pre39 : ∀ t, Steps p.tables e below (T36.setTop (mkF m 170 #[.val (.long q1), .second, .val (.long q2), .second, .val (.int p3), .val (.int p4), .val (.int p5), .val (.int (1 : Int32)), .val (.long xb), .second, .val (.long yb), .second, .val (.int (1 : Int32)), .val (.int (1 : Int32)), .val (.long (q1 &&& (9223372036854775807 : Int64))), .second, .val (.long (q2 &&& (9223372036854775807 : Int64))), .second, .val (.long lo), .second, .val (.long hi), .second, .val (.int (1 : Int32)), .unset, .unset, .unset, .unset] [])) t → Steps p.tables e below _ t := fun t kt => pre38 t (by
      show Steps p.tables e below (T36.setTop (mkF m 167 #[.val (.long q1), .second, .val (.long q2), .second, .val (.int p3), .val (.int p4), .val (.int p5), .val (.int (1 : Int32)), .val (.long xb), .second, .val (.long yb), .second, .val (.int (1 : Int32)), .val (.int (1 : Int32)), .val (.long (q1 &&& (9223372036854775807 : Int64))), .second, .val (.long (q2 &&& (9223372036854775807 : Int64))), .second, .val (.long lo), .second, .val (.long hi), .second, .val (.int (1 : Int32)), .unset, .unset, .unset, .unset] [(.int (lcmpW lo (0 : Int64)))])) _
      refine XS.ifNo X36.here hx rfl (hb hby at_167) rfl ((if0 _ _).trans (tlt hc167).2.2.2) ?_
      exact kt)
    have hl0 : 0 < lo.toInt := own_lopos hc167
    obtain ⟨bd1, bd2, bd3⟩ := own_bounds hl0 hlh
    obtain ⟨T40, h40, X40, e40, E40, A40, D40, -, st40⟩ := newO X36 hx hz25 how25 (hw _ (List.mem_of_getElem? (i := 0) rfl)) (hw _ (List.mem_of_getElem? (i := 1) rfl)) (hw _ (List.mem_of_getElem? (i := 2) rfl)) e36 (g := (mkF m 170 #[.val (.long q1), .second, .val (.long q2), .second, .val (.int p3), .val (.int p4), .val (.int p5), .val (.int (1 : Int32)), .val (.long xb), .second, .val (.long yb), .second, .val (.int (1 : Int32)), .val (.int (1 : Int32)), .val (.long (q1 &&& (9223372036854775807 : Int64))), .second, .val (.long (q2 &&& (9223372036854775807 : Int64))), .second, .val (.long lo), .second, .val (.long hi), .second, .val (.int (1 : Int32)), .unset, .unset, .unset, .unset] [])) rfl (hb hby at_170) (by decide) (by decide)
    obtain ⟨b40, gb40⟩ : ∃ z, z = T27.heap.size := ⟨_, rfl⟩
    rw [← gb40] at A40 D40 st40
    have g_b40 : n0 ≤ b40 := Nat.le_trans ZcC (Nat.le_of_eq gb40.symm)
    have Zs40 : n0 ≤ h40.size := Nat.le_trans ZcC E40.1
    have EaD := A40
    have FsD : Fld Z h40 b40 "canonsign/cli/SigningSpeed" "signature" "Ljava/lang/String;" .null := D40 (Or.inr (hw _ (List.mem_of_getElem? (i := 23) rfl))) (ty := (.object "java/lang/String")) (by decide)
    have F1D : Fld Z h40 b40 "canonsign/cli/SigningSpeed" "signNanos" "J" (.long 0) := D40 (Or.inr (hw _ (List.mem_of_getElem? (i := 25) rfl))) (ty := .long) (by decide)
    have F2D : Fld Z h40 b40 "canonsign/cli/SigningSpeed" "hmacNanos" "J" (.long 0) := D40 (Or.inr (hw _ (List.mem_of_getElem? (i := 27) rfl))) (ty := .long) (by decide)
    have kz40 : ks25 ≤ h40.size := Nat.le_trans kcC E40.1
    have pre41 : ∀ t, Steps p.tables e below (T40.setTop (mkF m 174 #[.val (.long q1), .second, .val (.long q2), .second, .val (.int p3), .val (.int p4), .val (.int p5), .val (.int (1 : Int32)), .val (.long xb), .second, .val (.long yb), .second, .val (.int (1 : Int32)), .val (.int (1 : Int32)), .val (.long (q1 &&& (9223372036854775807 : Int64))), .second, .val (.long (q2 &&& (9223372036854775807 : Int64))), .second, .val (.long lo), .second, .val (.long hi), .second, .val (.int (1 : Int32)), .unset, .unset, .unset, .unset] [(.ref b40), (.ref b40)])) t → Steps p.tables e below _ t := fun t kt => pre39 t (by
      show Steps p.tables e below (T36.setTop (mkF m 170 #[.val (.long q1), .second, .val (.long q2), .second, .val (.int p3), .val (.int p4), .val (.int p5), .val (.int (1 : Int32)), .val (.long xb), .second, .val (.long yb), .second, .val (.int (1 : Int32)), .val (.int (1 : Int32)), .val (.long (q1 &&& (9223372036854775807 : Int64))), .second, .val (.long (q2 &&& (9223372036854775807 : Int64))), .second, .val (.long lo), .second, .val (.long hi), .second, .val (.int (1 : Int32)), .unset, .unset, .unset, .unset] [])) _
      refine st40 _ ?_
      show Steps p.tables e below (T40.setTop (mkF m 173 #[.val (.long q1), .second, .val (.long q2), .second, .val (.int p3), .val (.int p4), .val (.int p5), .val (.int (1 : Int32)), .val (.long xb), .second, .val (.long yb), .second, .val (.int (1 : Int32)), .val (.int (1 : Int32)), .val (.long (q1 &&& (9223372036854775807 : Int64))), .second, .val (.long (q2 &&& (9223372036854775807 : Int64))), .second, .val (.long lo), .second, .val (.long hi), .second, .val (.int (1 : Int32)), .unset, .unset, .unset, .unset] [(.ref b40)])) _
      refine XS.dup X40.here hx rfl (hb hby at_173) rfl rfl ?_
      exact kt)
    obtain ⟨as42, T42, h42, ks42, X42, e42, E42, Si42, hk42, hz42, how42, st42⟩ := ldcS (s := s) (vm0 := T25.vm) X40 hx hz25 how25 (hw _ (List.mem_of_getElem? (i := 3) rfl)) wS e40 Si25 kz40 (g := (mkF m 174 #[.val (.long q1), .second, .val (.long q2), .second, .val (.int p3), .val (.int p4), .val (.int p5), .val (.int (1 : Int32)), .val (.long xb), .second, .val (.long yb), .second, .val (.int (1 : Int32)), .val (.int (1 : Int32)), .val (.long (q1 &&& (9223372036854775807 : Int64))), .second, .val (.long (q2 &&& (9223372036854775807 : Int64))), .second, .val (.long lo), .second, .val (.long hi), .second, .val (.int (1 : Int32)), .unset, .unset, .unset, .unset] [(.ref b40), (.ref b40)])) rfl (hb hby at_174) (n := 0) (by decide) (by decide) (by decide) (by decide)
    have Zs42 : n0 ≤ h42.size := Nat.le_trans Zs40 E42.1
    have EaDx := EaD.ext E42
    have FsDx := FsD.ext E42
    have F1Dx := F1D.ext E42
    have F2Dx := F2D.ext E42
    have pre43 : ∀ t, Steps p.tables e below (T42.setTop (mkF m 180 #[.val (.long q1), .second, .val (.long q2), .second, .val (.int p3), .val (.int p4), .val (.int p5), .val (.int (1 : Int32)), .val (.long xb), .second, .val (.long yb), .second, .val (.int (1 : Int32)), .val (.int (1 : Int32)), .val (.long (q1 &&& (9223372036854775807 : Int64))), .second, .val (.long (q2 &&& (9223372036854775807 : Int64))), .second, .val (.long lo), .second, .val (.long hi), .second, .val (.int (1 : Int32)), .unset, .unset, .unset, .unset] [(.long hi), (.long lo), (.ref as42), (.ref b40), (.ref b40)])) t → Steps p.tables e below _ t := fun t kt => pre41 t (by
      show Steps p.tables e below (T40.setTop (mkF m 174 #[.val (.long q1), .second, .val (.long q2), .second, .val (.int p3), .val (.int p4), .val (.int p5), .val (.int (1 : Int32)), .val (.long xb), .second, .val (.long yb), .second, .val (.int (1 : Int32)), .val (.int (1 : Int32)), .val (.long (q1 &&& (9223372036854775807 : Int64))), .second, .val (.long (q2 &&& (9223372036854775807 : Int64))), .second, .val (.long lo), .second, .val (.long hi), .second, .val (.int (1 : Int32)), .unset, .unset, .unset, .unset] [(.ref b40), (.ref b40)])) _
      refine st42 _ ?_
      show Steps p.tables e below (T42.setTop (mkF m 176 #[.val (.long q1), .second, .val (.long q2), .second, .val (.int p3), .val (.int p4), .val (.int p5), .val (.int (1 : Int32)), .val (.long xb), .second, .val (.long yb), .second, .val (.int (1 : Int32)), .val (.int (1 : Int32)), .val (.long (q1 &&& (9223372036854775807 : Int64))), .second, .val (.long (q2 &&& (9223372036854775807 : Int64))), .second, .val (.long lo), .second, .val (.long hi), .second, .val (.int (1 : Int32)), .unset, .unset, .unset, .unset] [(.ref as42), (.ref b40), (.ref b40)])) _
      refine XS.lload X42.here hx rfl (hb hby at_176) rfl ?_
      show Steps p.tables e below (T42.setTop (mkF m 178 #[.val (.long q1), .second, .val (.long q2), .second, .val (.int p3), .val (.int p4), .val (.int p5), .val (.int (1 : Int32)), .val (.long xb), .second, .val (.long yb), .second, .val (.int (1 : Int32)), .val (.int (1 : Int32)), .val (.long (q1 &&& (9223372036854775807 : Int64))), .second, .val (.long (q2 &&& (9223372036854775807 : Int64))), .second, .val (.long lo), .second, .val (.long hi), .second, .val (.int (1 : Int32)), .unset, .unset, .unset, .unset] [(.long lo), (.ref as42), (.ref b40), (.ref b40)])) _
      refine XS.lload X42.here hx rfl (hb hby at_178) rfl ?_
      exact kt)
    obtain ⟨_, _, ⟨T44, L44, k44, n44⟩, -, X44, ⟨Lc44, hQ44, l44, y44, z44⟩, st44⟩ := X42.specialBack hx (y := (⟨"canonsign/cli/SigningSpeed", "<init>", "(Ljava/lang/String;JJ)V"⟩ : MethodName)) rfl how42 (mvT hz42 (hw _ (List.mem_of_getElem? (i := 11) rfl))) (mvT hz42 (hw _ (List.mem_of_getElem? (i := 12) rfl))) (mvT hz42 (hw _ (List.mem_of_getElem? (i := 13) rfl))) (by decide) (backOf (W := 1) (rm1 l Z a0 hw [] b40 as42 lo hi h42 n0 Zs42 EaDx FsDx F1Dx F2Dx g_b40) hz42 (hw _ (List.mem_of_getElem? (i := 13) rfl)) (hw _ (List.mem_of_getElem? (i := 2) rfl)) (by decide) (by decide)) (g := (mkF m 180 #[.val (.long q1), .second, .val (.long q2), .second, .val (.int p3), .val (.int p4), .val (.int p5), .val (.int (1 : Int32)), .val (.long xb), .second, .val (.long yb), .second, .val (.int (1 : Int32)), .val (.int (1 : Int32)), .val (.long (q1 &&& (9223372036854775807 : Int64))), .second, .val (.long (q2 &&& (9223372036854775807 : Int64))), .second, .val (.long lo), .second, .val (.long hi), .second, .val (.int (1 : Int32)), .unset, .unset, .unset, .unset] [(.long hi), (.long lo), (.ref as42), (.ref b40), (.ref b40)])) rfl (by rw [hml]; rfl) (Steps.refl _) (a := b40) (argsL := [(.ref as42), (.long lo), (.long hi)]) (rest := [(.ref b40)]) (lenOf pd_1 rfl) rfl (by show 2 * 0 + _ ≤ _; exact Nat.le_of_eq rfl) (hb hby at_180) (fun _ _ => ⟨rfl, e42, (by decide : 12 + 0 ≤ _), (by decide : 28 + 0 ≤ _)⟩)
    dsimp only [Pt.U, Pt.locs, Pt.cells, Pt.slots] at X44 l44 y44 z44 st44 hQ44
    subst l44 y44 z44
    obtain ⟨rfl, N44q, KcD, EcD, FxD, FyD⟩ := hQ44
    have N44 := Fr.app N36 N44q
    have ZcD : n0 ≤ T44.heap.size := Nat.le_trans Zs42 KcD.1
    have kcD : ks42 ≤ T44.heap.size := Nat.le_trans hk42 KcD.1
    have pre45 : ∀ t, Steps p.tables e below (T44.setTop (mkF m 183 #[.val (.long q1), .second, .val (.long q2), .second, .val (.int p3), .val (.int p4), .val (.int p5), .val (.int (1 : Int32)), .val (.long xb), .second, .val (.long yb), .second, .val (.int (1 : Int32)), .val (.int (1 : Int32)), .val (.long (q1 &&& (9223372036854775807 : Int64))), .second, .val (.long (q2 &&& (9223372036854775807 : Int64))), .second, .val (.long lo), .second, .val (.long hi), .second, .val (.int (1 : Int32)), .unset, .unset, .unset, .unset] [(.ref b40)])) t → Steps p.tables e below _ t := fun t kt => pre43 t (by
      show Steps p.tables e below (T42.setTop (mkF m 180 #[.val (.long q1), .second, .val (.long q2), .second, .val (.int p3), .val (.int p4), .val (.int p5), .val (.int (1 : Int32)), .val (.long xb), .second, .val (.long yb), .second, .val (.int (1 : Int32)), .val (.int (1 : Int32)), .val (.long (q1 &&& (9223372036854775807 : Int64))), .second, .val (.long (q2 &&& (9223372036854775807 : Int64))), .second, .val (.long lo), .second, .val (.long hi), .second, .val (.int (1 : Int32)), .unset, .unset, .unset, .unset] [(.long hi), (.long lo), (.ref as42), (.ref b40), (.ref b40)])) _
      refine st44.trans ?_
      exact kt)
    obtain ⟨cq46, kq46, q46a, q46b, q46c⟩ := isOf hz42 rfl EcD
    obtain ⟨_, _, ⟨T46, L46, k46, n46⟩, -, X46, ⟨Lc46, hQ46, l46, y46, z46⟩, st46⟩ := X44.virtualBack hx (y := (⟨"canonsign/cli/SigningSpeed", "ratio", "()D"⟩ : MethodName)) (z := (⟨"canonsign/cli/SigningSpeed", "ratio", "()D"⟩ : MethodName)) how42 (mvT hz42 (hw _ (List.mem_of_getElem? (i := 28) rfl))) (mvT hz42 (hw _ (List.mem_of_getElem? (i := 29) rfl))) (notFace_of_selects (args := #[]) (mvT hz42 (hw _ (List.mem_of_getElem? (i := 31) rfl)))) (mvT hz42 (hw _ (List.mem_of_getElem? (i := 31) rfl))) (mvT hz42 (hw _ (List.mem_of_getElem? (i := 30) rfl))) (by decide) (backOf (W := 0) (rm4 l Z a0 hw [] b40 lo hi T44.heap n0 ZcD FxD FyD (by omega)) hz42 (hw _ (List.mem_of_getElem? (i := 32) rfl)) (hw _ (List.mem_of_getElem? (i := 2) rfl)) (by decide) (by decide)) q46a q46c (g := (mkF m 183 #[.val (.long q1), .second, .val (.long q2), .second, .val (.int p3), .val (.int p4), .val (.int p5), .val (.int (1 : Int32)), .val (.long xb), .second, .val (.long yb), .second, .val (.int (1 : Int32)), .val (.int (1 : Int32)), .val (.long (q1 &&& (9223372036854775807 : Int64))), .second, .val (.long (q2 &&& (9223372036854775807 : Int64))), .second, .val (.long lo), .second, .val (.long hi), .second, .val (.int (1 : Int32)), .unset, .unset, .unset, .unset] [(.ref b40)])) rfl (by rw [hml]; rfl) (Steps.refl _) (argsL := []) (rest := []) (lenOf pd_2 rfl) rfl (by show 2 * 0 + _ ≤ _; exact Nat.le_of_eq rfl) (hb hby at_183) (fun _ _ => ⟨rfl, rfl, (by decide : 12 + 0 ≤ _), (by decide : 28 + 0 ≤ _)⟩)
    dsimp only [Pt.U, Pt.locs, Pt.cells, Pt.slots] at X46 l46 y46 z46 st46 hQ46
    subst l46 y46 z46
    obtain ⟨rfl, N46q, e46⟩ := hQ46
    have N46 := Fr.app N44 N46q
    have pre47 : ∀ t, Steps p.tables e below (T46.setTop (mkF m 188 #[.val (.long q1), .second, .val (.long q2), .second, .val (.int p3), .val (.int p4), .val (.int p5), .val (.int (1 : Int32)), .val (.long xb), .second, .val (.long yb), .second, .val (.int (1 : Int32)), .val (.int (1 : Int32)), .val (.long (q1 &&& (9223372036854775807 : Int64))), .second, .val (.long (q2 &&& (9223372036854775807 : Int64))), .second, .val (.long lo), .second, .val (.long hi), .second, .val (.int (1 : Int32)), .val (.double (Jvm.FP.Core.ddiv (Jvm.FP.Core.l2d lo) (Jvm.FP.Core.l2d hi))), .second, .unset, .unset] [])) t → Steps p.tables e below _ t := fun t kt => pre45 t (by
      show Steps p.tables e below (T44.setTop (mkF m 183 #[.val (.long q1), .second, .val (.long q2), .second, .val (.int p3), .val (.int p4), .val (.int p5), .val (.int (1 : Int32)), .val (.long xb), .second, .val (.long yb), .second, .val (.int (1 : Int32)), .val (.int (1 : Int32)), .val (.long (q1 &&& (9223372036854775807 : Int64))), .second, .val (.long (q2 &&& (9223372036854775807 : Int64))), .second, .val (.long lo), .second, .val (.long hi), .second, .val (.int (1 : Int32)), .unset, .unset, .unset, .unset] [(.ref b40)])) _
      refine st46.trans ?_
      show Steps p.tables e below (T46.setTop (mkF m 186 #[.val (.long q1), .second, .val (.long q2), .second, .val (.int p3), .val (.int p4), .val (.int p5), .val (.int (1 : Int32)), .val (.long xb), .second, .val (.long yb), .second, .val (.int (1 : Int32)), .val (.int (1 : Int32)), .val (.long (q1 &&& (9223372036854775807 : Int64))), .second, .val (.long (q2 &&& (9223372036854775807 : Int64))), .second, .val (.long lo), .second, .val (.long hi), .second, .val (.int (1 : Int32)), .unset, .unset, .unset, .unset] [(.double (Jvm.FP.Core.ddiv (Jvm.FP.Core.l2d lo) (Jvm.FP.Core.l2d hi)))])) _
      refine XS.dstore X46.here hx rfl (hb hby at_186) rfl (l' := #[.val (.long q1), .second, .val (.long q2), .second, .val (.int p3), .val (.int p4), .val (.int p5), .val (.int (1 : Int32)), .val (.long xb), .second, .val (.long yb), .second, .val (.int (1 : Int32)), .val (.int (1 : Int32)), .val (.long (q1 &&& (9223372036854775807 : Int64))), .second, .val (.long (q2 &&& (9223372036854775807 : Int64))), .second, .val (.long lo), .second, .val (.long hi), .second, .val (.int (1 : Int32)), .val (.double (Jvm.FP.Core.ddiv (Jvm.FP.Core.l2d lo) (Jvm.FP.Core.l2d hi))), .second, .unset, .unset]) rfl ?_
      exact kt)
    obtain ⟨T48, h48, X48, e48, E48, A48, D48, -, st48⟩ := newO X46 hx hz42 how42 (hw _ (List.mem_of_getElem? (i := 0) rfl)) (hw _ (List.mem_of_getElem? (i := 1) rfl)) (hw _ (List.mem_of_getElem? (i := 2) rfl)) e46 (g := (mkF m 188 #[.val (.long q1), .second, .val (.long q2), .second, .val (.int p3), .val (.int p4), .val (.int p5), .val (.int (1 : Int32)), .val (.long xb), .second, .val (.long yb), .second, .val (.int (1 : Int32)), .val (.int (1 : Int32)), .val (.long (q1 &&& (9223372036854775807 : Int64))), .second, .val (.long (q2 &&& (9223372036854775807 : Int64))), .second, .val (.long lo), .second, .val (.long hi), .second, .val (.int (1 : Int32)), .val (.double (Jvm.FP.Core.ddiv (Jvm.FP.Core.l2d lo) (Jvm.FP.Core.l2d hi))), .second, .unset, .unset] [])) rfl (hb hby at_188) (by decide) (by decide)
    obtain ⟨b48, gb48⟩ : ∃ z, z = T44.heap.size := ⟨_, rfl⟩
    rw [← gb48] at A48 D48 st48
    have g_b48 : n0 ≤ b48 := Nat.le_trans ZcD (Nat.le_of_eq gb48.symm)
    have Zs48 : n0 ≤ h48.size := Nat.le_trans ZcD E48.1
    have EaE := A48
    have FsE : Fld Z h48 b48 "canonsign/cli/SigningSpeed" "signature" "Ljava/lang/String;" .null := D48 (Or.inr (hw _ (List.mem_of_getElem? (i := 23) rfl))) (ty := (.object "java/lang/String")) (by decide)
    have F1E : Fld Z h48 b48 "canonsign/cli/SigningSpeed" "signNanos" "J" (.long 0) := D48 (Or.inr (hw _ (List.mem_of_getElem? (i := 25) rfl))) (ty := .long) (by decide)
    have F2E : Fld Z h48 b48 "canonsign/cli/SigningSpeed" "hmacNanos" "J" (.long 0) := D48 (Or.inr (hw _ (List.mem_of_getElem? (i := 27) rfl))) (ty := .long) (by decide)
    have kz48 : ks42 ≤ h48.size := Nat.le_trans kcD E48.1
    have pre49 : ∀ t, Steps p.tables e below (T48.setTop (mkF m 192 #[.val (.long q1), .second, .val (.long q2), .second, .val (.int p3), .val (.int p4), .val (.int p5), .val (.int (1 : Int32)), .val (.long xb), .second, .val (.long yb), .second, .val (.int (1 : Int32)), .val (.int (1 : Int32)), .val (.long (q1 &&& (9223372036854775807 : Int64))), .second, .val (.long (q2 &&& (9223372036854775807 : Int64))), .second, .val (.long lo), .second, .val (.long hi), .second, .val (.int (1 : Int32)), .val (.double (Jvm.FP.Core.ddiv (Jvm.FP.Core.l2d lo) (Jvm.FP.Core.l2d hi))), .second, .unset, .unset] [(.ref b48), (.ref b48)])) t → Steps p.tables e below _ t := fun t kt => pre47 t (by
      show Steps p.tables e below (T46.setTop (mkF m 188 #[.val (.long q1), .second, .val (.long q2), .second, .val (.int p3), .val (.int p4), .val (.int p5), .val (.int (1 : Int32)), .val (.long xb), .second, .val (.long yb), .second, .val (.int (1 : Int32)), .val (.int (1 : Int32)), .val (.long (q1 &&& (9223372036854775807 : Int64))), .second, .val (.long (q2 &&& (9223372036854775807 : Int64))), .second, .val (.long lo), .second, .val (.long hi), .second, .val (.int (1 : Int32)), .val (.double (Jvm.FP.Core.ddiv (Jvm.FP.Core.l2d lo) (Jvm.FP.Core.l2d hi))), .second, .unset, .unset] [])) _
      refine st48 _ ?_
      show Steps p.tables e below (T48.setTop (mkF m 191 #[.val (.long q1), .second, .val (.long q2), .second, .val (.int p3), .val (.int p4), .val (.int p5), .val (.int (1 : Int32)), .val (.long xb), .second, .val (.long yb), .second, .val (.int (1 : Int32)), .val (.int (1 : Int32)), .val (.long (q1 &&& (9223372036854775807 : Int64))), .second, .val (.long (q2 &&& (9223372036854775807 : Int64))), .second, .val (.long lo), .second, .val (.long hi), .second, .val (.int (1 : Int32)), .val (.double (Jvm.FP.Core.ddiv (Jvm.FP.Core.l2d lo) (Jvm.FP.Core.l2d hi))), .second, .unset, .unset] [(.ref b48)])) _
      refine XS.dup X48.here hx rfl (hb hby at_191) rfl rfl ?_
      exact kt)
    obtain ⟨as50, T50, h50, ks50, X50, e50, E50, Si50, hk50, hz50, how50, st50⟩ := ldcS (s := s) (vm0 := T42.vm) X48 hx hz42 how42 (hw _ (List.mem_of_getElem? (i := 3) rfl)) wS e48 Si42 kz48 (g := (mkF m 192 #[.val (.long q1), .second, .val (.long q2), .second, .val (.int p3), .val (.int p4), .val (.int p5), .val (.int (1 : Int32)), .val (.long xb), .second, .val (.long yb), .second, .val (.int (1 : Int32)), .val (.int (1 : Int32)), .val (.long (q1 &&& (9223372036854775807 : Int64))), .second, .val (.long (q2 &&& (9223372036854775807 : Int64))), .second, .val (.long lo), .second, .val (.long hi), .second, .val (.int (1 : Int32)), .val (.double (Jvm.FP.Core.ddiv (Jvm.FP.Core.l2d lo) (Jvm.FP.Core.l2d hi))), .second, .unset, .unset] [(.ref b48), (.ref b48)])) rfl (hb hby at_192) (n := 0) (by decide) (by decide) (by decide) (by decide)
    have Zs50 : n0 ≤ h50.size := Nat.le_trans Zs48 E50.1
    have EaEx := EaE.ext E50
    have FsEx := FsE.ext E50
    have F1Ex := F1E.ext E50
    have F2Ex := F2E.ext E50
    have pre51 : ∀ t, Steps p.tables e below (T50.setTop (mkF m 198 #[.val (.long q1), .second, .val (.long q2), .second, .val (.int p3), .val (.int p4), .val (.int p5), .val (.int (1 : Int32)), .val (.long xb), .second, .val (.long yb), .second, .val (.int (1 : Int32)), .val (.int (1 : Int32)), .val (.long (q1 &&& (9223372036854775807 : Int64))), .second, .val (.long (q2 &&& (9223372036854775807 : Int64))), .second, .val (.long lo), .second, .val (.long hi), .second, .val (.int (1 : Int32)), .val (.double (Jvm.FP.Core.ddiv (Jvm.FP.Core.l2d lo) (Jvm.FP.Core.l2d hi))), .second, .unset, .unset] [(.long lo), (.long hi), (.ref as50), (.ref b48), (.ref b48)])) t → Steps p.tables e below _ t := fun t kt => pre49 t (by
      show Steps p.tables e below (T48.setTop (mkF m 192 #[.val (.long q1), .second, .val (.long q2), .second, .val (.int p3), .val (.int p4), .val (.int p5), .val (.int (1 : Int32)), .val (.long xb), .second, .val (.long yb), .second, .val (.int (1 : Int32)), .val (.int (1 : Int32)), .val (.long (q1 &&& (9223372036854775807 : Int64))), .second, .val (.long (q2 &&& (9223372036854775807 : Int64))), .second, .val (.long lo), .second, .val (.long hi), .second, .val (.int (1 : Int32)), .val (.double (Jvm.FP.Core.ddiv (Jvm.FP.Core.l2d lo) (Jvm.FP.Core.l2d hi))), .second, .unset, .unset] [(.ref b48), (.ref b48)])) _
      refine st50 _ ?_
      show Steps p.tables e below (T50.setTop (mkF m 194 #[.val (.long q1), .second, .val (.long q2), .second, .val (.int p3), .val (.int p4), .val (.int p5), .val (.int (1 : Int32)), .val (.long xb), .second, .val (.long yb), .second, .val (.int (1 : Int32)), .val (.int (1 : Int32)), .val (.long (q1 &&& (9223372036854775807 : Int64))), .second, .val (.long (q2 &&& (9223372036854775807 : Int64))), .second, .val (.long lo), .second, .val (.long hi), .second, .val (.int (1 : Int32)), .val (.double (Jvm.FP.Core.ddiv (Jvm.FP.Core.l2d lo) (Jvm.FP.Core.l2d hi))), .second, .unset, .unset] [(.ref as50), (.ref b48), (.ref b48)])) _
      refine XS.lload X50.here hx rfl (hb hby at_194) rfl ?_
      show Steps p.tables e below (T50.setTop (mkF m 196 #[.val (.long q1), .second, .val (.long q2), .second, .val (.int p3), .val (.int p4), .val (.int p5), .val (.int (1 : Int32)), .val (.long xb), .second, .val (.long yb), .second, .val (.int (1 : Int32)), .val (.int (1 : Int32)), .val (.long (q1 &&& (9223372036854775807 : Int64))), .second, .val (.long (q2 &&& (9223372036854775807 : Int64))), .second, .val (.long lo), .second, .val (.long hi), .second, .val (.int (1 : Int32)), .val (.double (Jvm.FP.Core.ddiv (Jvm.FP.Core.l2d lo) (Jvm.FP.Core.l2d hi))), .second, .unset, .unset] [(.long hi), (.ref as50), (.ref b48), (.ref b48)])) _
      refine XS.lload X50.here hx rfl (hb hby at_196) rfl ?_
      exact kt)
    obtain ⟨_, _, ⟨T52, L52, k52, n52⟩, -, X52, ⟨Lc52, hQ52, l52, y52, z52⟩, st52⟩ := X50.specialBack hx (y := (⟨"canonsign/cli/SigningSpeed", "<init>", "(Ljava/lang/String;JJ)V"⟩ : MethodName)) rfl how50 (mvT hz50 (hw _ (List.mem_of_getElem? (i := 11) rfl))) (mvT hz50 (hw _ (List.mem_of_getElem? (i := 12) rfl))) (mvT hz50 (hw _ (List.mem_of_getElem? (i := 13) rfl))) (by decide) (backOf (W := 1) (rm1 l Z a0 hw [] b48 as50 hi lo h50 n0 Zs50 EaEx FsEx F1Ex F2Ex g_b48) hz50 (hw _ (List.mem_of_getElem? (i := 13) rfl)) (hw _ (List.mem_of_getElem? (i := 2) rfl)) (by decide) (by decide)) (g := (mkF m 198 #[.val (.long q1), .second, .val (.long q2), .second, .val (.int p3), .val (.int p4), .val (.int p5), .val (.int (1 : Int32)), .val (.long xb), .second, .val (.long yb), .second, .val (.int (1 : Int32)), .val (.int (1 : Int32)), .val (.long (q1 &&& (9223372036854775807 : Int64))), .second, .val (.long (q2 &&& (9223372036854775807 : Int64))), .second, .val (.long lo), .second, .val (.long hi), .second, .val (.int (1 : Int32)), .val (.double (Jvm.FP.Core.ddiv (Jvm.FP.Core.l2d lo) (Jvm.FP.Core.l2d hi))), .second, .unset, .unset] [(.long lo), (.long hi), (.ref as50), (.ref b48), (.ref b48)])) rfl (by rw [hml]; rfl) (Steps.refl _) (a := b48) (argsL := [(.ref as50), (.long hi), (.long lo)]) (rest := [(.ref b48)]) (lenOf pd_1 rfl) rfl (by show 2 * 0 + _ ≤ _; exact Nat.le_of_eq rfl) (hb hby at_198) (fun _ _ => ⟨rfl, e50, (by decide : 15 + 0 ≤ _), (by decide : 35 + 0 ≤ _)⟩)
    dsimp only [Pt.U, Pt.locs, Pt.cells, Pt.slots] at X52 l52 y52 z52 st52 hQ52
    subst l52 y52 z52
    obtain ⟨rfl, N52q, KcE, EcE, FxE, FyE⟩ := hQ52
    have N52 := Fr.app N46 N52q
    have ZcE : n0 ≤ T52.heap.size := Nat.le_trans Zs50 KcE.1
    have kcE : ks50 ≤ T52.heap.size := Nat.le_trans hk50 KcE.1
    have pre53 : ∀ t, Steps p.tables e below (T52.setTop (mkF m 201 #[.val (.long q1), .second, .val (.long q2), .second, .val (.int p3), .val (.int p4), .val (.int p5), .val (.int (1 : Int32)), .val (.long xb), .second, .val (.long yb), .second, .val (.int (1 : Int32)), .val (.int (1 : Int32)), .val (.long (q1 &&& (9223372036854775807 : Int64))), .second, .val (.long (q2 &&& (9223372036854775807 : Int64))), .second, .val (.long lo), .second, .val (.long hi), .second, .val (.int (1 : Int32)), .val (.double (Jvm.FP.Core.ddiv (Jvm.FP.Core.l2d lo) (Jvm.FP.Core.l2d hi))), .second, .unset, .unset] [(.ref b48)])) t → Steps p.tables e below _ t := fun t kt => pre51 t (by
      show Steps p.tables e below (T50.setTop (mkF m 198 #[.val (.long q1), .second, .val (.long q2), .second, .val (.int p3), .val (.int p4), .val (.int p5), .val (.int (1 : Int32)), .val (.long xb), .second, .val (.long yb), .second, .val (.int (1 : Int32)), .val (.int (1 : Int32)), .val (.long (q1 &&& (9223372036854775807 : Int64))), .second, .val (.long (q2 &&& (9223372036854775807 : Int64))), .second, .val (.long lo), .second, .val (.long hi), .second, .val (.int (1 : Int32)), .val (.double (Jvm.FP.Core.ddiv (Jvm.FP.Core.l2d lo) (Jvm.FP.Core.l2d hi))), .second, .unset, .unset] [(.long lo), (.long hi), (.ref as50), (.ref b48), (.ref b48)])) _
      refine st52.trans ?_
      exact kt)
    obtain ⟨cq54, kq54, q54a, q54b, q54c⟩ := isOf hz50 rfl EcE
    obtain ⟨_, _, ⟨T54, L54, k54, n54⟩, -, X54, ⟨Lc54, hQ54, l54, y54, z54⟩, st54⟩ := X52.virtualBack hx (y := (⟨"canonsign/cli/SigningSpeed", "ratio", "()D"⟩ : MethodName)) (z := (⟨"canonsign/cli/SigningSpeed", "ratio", "()D"⟩ : MethodName)) how50 (mvT hz50 (hw _ (List.mem_of_getElem? (i := 28) rfl))) (mvT hz50 (hw _ (List.mem_of_getElem? (i := 29) rfl))) (notFace_of_selects (args := #[]) (mvT hz50 (hw _ (List.mem_of_getElem? (i := 31) rfl)))) (mvT hz50 (hw _ (List.mem_of_getElem? (i := 31) rfl))) (mvT hz50 (hw _ (List.mem_of_getElem? (i := 30) rfl))) (by decide) (backOf (W := 0) (rm4 l Z a0 hw [] b48 hi lo T52.heap n0 ZcE FxE FyE (by omega)) hz50 (hw _ (List.mem_of_getElem? (i := 32) rfl)) (hw _ (List.mem_of_getElem? (i := 2) rfl)) (by decide) (by decide)) q54a q54c (g := (mkF m 201 #[.val (.long q1), .second, .val (.long q2), .second, .val (.int p3), .val (.int p4), .val (.int p5), .val (.int (1 : Int32)), .val (.long xb), .second, .val (.long yb), .second, .val (.int (1 : Int32)), .val (.int (1 : Int32)), .val (.long (q1 &&& (9223372036854775807 : Int64))), .second, .val (.long (q2 &&& (9223372036854775807 : Int64))), .second, .val (.long lo), .second, .val (.long hi), .second, .val (.int (1 : Int32)), .val (.double (Jvm.FP.Core.ddiv (Jvm.FP.Core.l2d lo) (Jvm.FP.Core.l2d hi))), .second, .unset, .unset] [(.ref b48)])) rfl (by rw [hml]; rfl) (Steps.refl _) (argsL := []) (rest := []) (lenOf pd_2 rfl) rfl (by show 2 * 0 + _ ≤ _; exact Nat.le_of_eq rfl) (hb hby at_201) (fun _ _ => ⟨rfl, rfl, (by decide : 15 + 0 ≤ _), (by decide : 35 + 0 ≤ _)⟩)
    dsimp only [Pt.U, Pt.locs, Pt.cells, Pt.slots] at X54 l54 y54 z54 st54 hQ54
    subst l54 y54 z54
    obtain ⟨rfl, N54q, e54⟩ := hQ54
    have N54 := Fr.app N52 N54q
    have pre55 : ∀ t, Steps p.tables e below (T54.setTop (mkF m 210 #[.val (.long q1), .second, .val (.long q2), .second, .val (.int p3), .val (.int p4), .val (.int p5), .val (.int (1 : Int32)), .val (.long xb), .second, .val (.long yb), .second, .val (.int (1 : Int32)), .val (.int (1 : Int32)), .val (.long (q1 &&& (9223372036854775807 : Int64))), .second, .val (.long (q2 &&& (9223372036854775807 : Int64))), .second, .val (.long lo), .second, .val (.long hi), .second, .val (.int (1 : Int32)), .val (.double (Jvm.FP.Core.ddiv (Jvm.FP.Core.l2d lo) (Jvm.FP.Core.l2d hi))), .second, .val (.double (Jvm.FP.Core.ddiv (Jvm.FP.Core.l2d hi) (Jvm.FP.Core.l2d lo))), .second] [(.int (cmpValue (Jvm.FP.Core.dcmp (0 : UInt64) (Jvm.FP.Core.ddiv (Jvm.FP.Core.l2d lo) (Jvm.FP.Core.l2d hi))) .g))])) t → Steps p.tables e below _ t := fun t kt => pre53 t (by
      show Steps p.tables e below (T52.setTop (mkF m 201 #[.val (.long q1), .second, .val (.long q2), .second, .val (.int p3), .val (.int p4), .val (.int p5), .val (.int (1 : Int32)), .val (.long xb), .second, .val (.long yb), .second, .val (.int (1 : Int32)), .val (.int (1 : Int32)), .val (.long (q1 &&& (9223372036854775807 : Int64))), .second, .val (.long (q2 &&& (9223372036854775807 : Int64))), .second, .val (.long lo), .second, .val (.long hi), .second, .val (.int (1 : Int32)), .val (.double (Jvm.FP.Core.ddiv (Jvm.FP.Core.l2d lo) (Jvm.FP.Core.l2d hi))), .second, .unset, .unset] [(.ref b48)])) _
      refine st54.trans ?_
      show Steps p.tables e below (T54.setTop (mkF m 204 #[.val (.long q1), .second, .val (.long q2), .second, .val (.int p3), .val (.int p4), .val (.int p5), .val (.int (1 : Int32)), .val (.long xb), .second, .val (.long yb), .second, .val (.int (1 : Int32)), .val (.int (1 : Int32)), .val (.long (q1 &&& (9223372036854775807 : Int64))), .second, .val (.long (q2 &&& (9223372036854775807 : Int64))), .second, .val (.long lo), .second, .val (.long hi), .second, .val (.int (1 : Int32)), .val (.double (Jvm.FP.Core.ddiv (Jvm.FP.Core.l2d lo) (Jvm.FP.Core.l2d hi))), .second, .unset, .unset] [(.double (Jvm.FP.Core.ddiv (Jvm.FP.Core.l2d hi) (Jvm.FP.Core.l2d lo)))])) _
      refine XS.dstore X54.here hx rfl (hb hby at_204) rfl (l' := #[.val (.long q1), .second, .val (.long q2), .second, .val (.int p3), .val (.int p4), .val (.int p5), .val (.int (1 : Int32)), .val (.long xb), .second, .val (.long yb), .second, .val (.int (1 : Int32)), .val (.int (1 : Int32)), .val (.long (q1 &&& (9223372036854775807 : Int64))), .second, .val (.long (q2 &&& (9223372036854775807 : Int64))), .second, .val (.long lo), .second, .val (.long hi), .second, .val (.int (1 : Int32)), .val (.double (Jvm.FP.Core.ddiv (Jvm.FP.Core.l2d lo) (Jvm.FP.Core.l2d hi))), .second, .val (.double (Jvm.FP.Core.ddiv (Jvm.FP.Core.l2d hi) (Jvm.FP.Core.l2d lo))), .second]) rfl ?_
      show Steps p.tables e below (T54.setTop (mkF m 206 #[.val (.long q1), .second, .val (.long q2), .second, .val (.int p3), .val (.int p4), .val (.int p5), .val (.int (1 : Int32)), .val (.long xb), .second, .val (.long yb), .second, .val (.int (1 : Int32)), .val (.int (1 : Int32)), .val (.long (q1 &&& (9223372036854775807 : Int64))), .second, .val (.long (q2 &&& (9223372036854775807 : Int64))), .second, .val (.long lo), .second, .val (.long hi), .second, .val (.int (1 : Int32)), .val (.double (Jvm.FP.Core.ddiv (Jvm.FP.Core.l2d lo) (Jvm.FP.Core.l2d hi))), .second, .val (.double (Jvm.FP.Core.ddiv (Jvm.FP.Core.l2d hi) (Jvm.FP.Core.l2d lo))), .second] [])) _
      refine XS.dconst0 X54.here hx rfl (hb hby at_206) (v := (0 : UInt64)) rfl ?_
      show Steps p.tables e below (T54.setTop (mkF m 207 #[.val (.long q1), .second, .val (.long q2), .second, .val (.int p3), .val (.int p4), .val (.int p5), .val (.int (1 : Int32)), .val (.long xb), .second, .val (.long yb), .second, .val (.int (1 : Int32)), .val (.int (1 : Int32)), .val (.long (q1 &&& (9223372036854775807 : Int64))), .second, .val (.long (q2 &&& (9223372036854775807 : Int64))), .second, .val (.long lo), .second, .val (.long hi), .second, .val (.int (1 : Int32)), .val (.double (Jvm.FP.Core.ddiv (Jvm.FP.Core.l2d lo) (Jvm.FP.Core.l2d hi))), .second, .val (.double (Jvm.FP.Core.ddiv (Jvm.FP.Core.l2d hi) (Jvm.FP.Core.l2d lo))), .second] [(.double (0 : UInt64))])) _
      refine XS.dload X54.here hx rfl (hb hby at_207) rfl ?_
      show Steps p.tables e below (T54.setTop (mkF m 209 #[.val (.long q1), .second, .val (.long q2), .second, .val (.int p3), .val (.int p4), .val (.int p5), .val (.int (1 : Int32)), .val (.long xb), .second, .val (.long yb), .second, .val (.int (1 : Int32)), .val (.int (1 : Int32)), .val (.long (q1 &&& (9223372036854775807 : Int64))), .second, .val (.long (q2 &&& (9223372036854775807 : Int64))), .second, .val (.long lo), .second, .val (.long hi), .second, .val (.int (1 : Int32)), .val (.double (Jvm.FP.Core.ddiv (Jvm.FP.Core.l2d lo) (Jvm.FP.Core.l2d hi))), .second, .val (.double (Jvm.FP.Core.ddiv (Jvm.FP.Core.l2d hi) (Jvm.FP.Core.l2d lo))), .second] [(.double (Jvm.FP.Core.ddiv (Jvm.FP.Core.l2d lo) (Jvm.FP.Core.l2d hi))), (.double (0 : UInt64))])) _
      refine XS.dcmpS X54.here hx rfl (hb hby at_209) rfl rfl ?_
      exact kt)
    have hv56 : (cmpValue (Jvm.FP.Core.dcmp (0 : UInt64) (Jvm.FP.Core.ddiv (Jvm.FP.Core.l2d lo) (Jvm.FP.Core.l2d hi))) .g) = (-1 : Int32) := congrArg (fun o => cmpValue o .g) bd1
    rw [hv56] at pre55
    obtain ⟨fs, hr, hrun, hended, -, hW, hI, hsame⟩ := X54.leaveW Si50 (by rw [e54]; exact kcE) (v := some (.int (1 : Int32))) (fun h => by rw [Bd.returns] at h; cases h)
    refine ⟨_, _, pre55 _ ?_, hrun, hended, _, _, rfl, ?_, ⟨_, rfl⟩, hW, hI, hsame.mono (by decide) (by decide)⟩
    · have hc210 : (-1 : Int32) < (0 : Int32) := by decide
      show Steps p.tables e below (T54.setTop (mkF m 210 #[.val (.long q1), .second, .val (.long q2), .second, .val (.int p3), .val (.int p4), .val (.int p5), .val (.int (1 : Int32)), .val (.long xb), .second, .val (.long yb), .second, .val (.int (1 : Int32)), .val (.int (1 : Int32)), .val (.long (q1 &&& (9223372036854775807 : Int64))), .second, .val (.long (q2 &&& (9223372036854775807 : Int64))), .second, .val (.long lo), .second, .val (.long hi), .second, .val (.int (1 : Int32)), .val (.double (Jvm.FP.Core.ddiv (Jvm.FP.Core.l2d lo) (Jvm.FP.Core.l2d hi))), .second, .val (.double (Jvm.FP.Core.ddiv (Jvm.FP.Core.l2d hi) (Jvm.FP.Core.l2d lo))), .second] [(.int (-1 : Int32))])) _
      refine XS.ifNo X54.here hx rfl (hb hby at_210) rfl ((if0 _ _).trans (tlt hc210).2.1) ?_
      show Steps p.tables e below (T54.setTop (mkF m 213 #[.val (.long q1), .second, .val (.long q2), .second, .val (.int p3), .val (.int p4), .val (.int p5), .val (.int (1 : Int32)), .val (.long xb), .second, .val (.long yb), .second, .val (.int (1 : Int32)), .val (.int (1 : Int32)), .val (.long (q1 &&& (9223372036854775807 : Int64))), .second, .val (.long (q2 &&& (9223372036854775807 : Int64))), .second, .val (.long lo), .second, .val (.long hi), .second, .val (.int (1 : Int32)), .val (.double (Jvm.FP.Core.ddiv (Jvm.FP.Core.l2d lo) (Jvm.FP.Core.l2d hi))), .second, .val (.double (Jvm.FP.Core.ddiv (Jvm.FP.Core.l2d hi) (Jvm.FP.Core.l2d lo))), .second] [])) _
      refine XS.dload X54.here hx rfl (hb hby at_213) rfl ?_
      show Steps p.tables e below (T54.setTop (mkF m 215 #[.val (.long q1), .second, .val (.long q2), .second, .val (.int p3), .val (.int p4), .val (.int p5), .val (.int (1 : Int32)), .val (.long xb), .second, .val (.long yb), .second, .val (.int (1 : Int32)), .val (.int (1 : Int32)), .val (.long (q1 &&& (9223372036854775807 : Int64))), .second, .val (.long (q2 &&& (9223372036854775807 : Int64))), .second, .val (.long lo), .second, .val (.long hi), .second, .val (.int (1 : Int32)), .val (.double (Jvm.FP.Core.ddiv (Jvm.FP.Core.l2d lo) (Jvm.FP.Core.l2d hi))), .second, .val (.double (Jvm.FP.Core.ddiv (Jvm.FP.Core.l2d hi) (Jvm.FP.Core.l2d lo))), .second] [(.double (Jvm.FP.Core.ddiv (Jvm.FP.Core.l2d lo) (Jvm.FP.Core.l2d hi)))])) _
      refine XS.dconst1 X54.here hx rfl (hb hby at_215) (v := own_one64) rfl ?_
      show Steps p.tables e below (T54.setTop (mkF m 216 #[.val (.long q1), .second, .val (.long q2), .second, .val (.int p3), .val (.int p4), .val (.int p5), .val (.int (1 : Int32)), .val (.long xb), .second, .val (.long yb), .second, .val (.int (1 : Int32)), .val (.int (1 : Int32)), .val (.long (q1 &&& (9223372036854775807 : Int64))), .second, .val (.long (q2 &&& (9223372036854775807 : Int64))), .second, .val (.long lo), .second, .val (.long hi), .second, .val (.int (1 : Int32)), .val (.double (Jvm.FP.Core.ddiv (Jvm.FP.Core.l2d lo) (Jvm.FP.Core.l2d hi))), .second, .val (.double (Jvm.FP.Core.ddiv (Jvm.FP.Core.l2d hi) (Jvm.FP.Core.l2d lo))), .second] [(.double own_one64), (.double (Jvm.FP.Core.ddiv (Jvm.FP.Core.l2d lo) (Jvm.FP.Core.l2d hi)))])) _
      refine XS.dcmpS X54.here hx rfl (hb hby at_216) rfl rfl ?_
      have hc217 : ¬ ((0 : Int32) < (cmpValue (Jvm.FP.Core.dcmp (Jvm.FP.Core.ddiv (Jvm.FP.Core.l2d lo) (Jvm.FP.Core.l2d hi)) own_one64) .g)) := own_cle bd2
      show Steps p.tables e below (T54.setTop (mkF m 217 #[.val (.long q1), .second, .val (.long q2), .second, .val (.int p3), .val (.int p4), .val (.int p5), .val (.int (1 : Int32)), .val (.long xb), .second, .val (.long yb), .second, .val (.int (1 : Int32)), .val (.int (1 : Int32)), .val (.long (q1 &&& (9223372036854775807 : Int64))), .second, .val (.long (q2 &&& (9223372036854775807 : Int64))), .second, .val (.long lo), .second, .val (.long hi), .second, .val (.int (1 : Int32)), .val (.double (Jvm.FP.Core.ddiv (Jvm.FP.Core.l2d lo) (Jvm.FP.Core.l2d hi))), .second, .val (.double (Jvm.FP.Core.ddiv (Jvm.FP.Core.l2d hi) (Jvm.FP.Core.l2d lo))), .second] [(.int (cmpValue (Jvm.FP.Core.dcmp (Jvm.FP.Core.ddiv (Jvm.FP.Core.l2d lo) (Jvm.FP.Core.l2d hi)) own_one64) .g))])) _
      refine XS.ifNo X54.here hx rfl (hb hby at_217) rfl ((if0 _ _).trans (flt hc217).2.2.1) ?_
      show Steps p.tables e below (T54.setTop (mkF m 220 #[.val (.long q1), .second, .val (.long q2), .second, .val (.int p3), .val (.int p4), .val (.int p5), .val (.int (1 : Int32)), .val (.long xb), .second, .val (.long yb), .second, .val (.int (1 : Int32)), .val (.int (1 : Int32)), .val (.long (q1 &&& (9223372036854775807 : Int64))), .second, .val (.long (q2 &&& (9223372036854775807 : Int64))), .second, .val (.long lo), .second, .val (.long hi), .second, .val (.int (1 : Int32)), .val (.double (Jvm.FP.Core.ddiv (Jvm.FP.Core.l2d lo) (Jvm.FP.Core.l2d hi))), .second, .val (.double (Jvm.FP.Core.ddiv (Jvm.FP.Core.l2d hi) (Jvm.FP.Core.l2d lo))), .second] [])) _
      refine XS.dconst1 X54.here hx rfl (hb hby at_220) (v := own_one64) rfl ?_
      show Steps p.tables e below (T54.setTop (mkF m 221 #[.val (.long q1), .second, .val (.long q2), .second, .val (.int p3), .val (.int p4), .val (.int p5), .val (.int (1 : Int32)), .val (.long xb), .second, .val (.long yb), .second, .val (.int (1 : Int32)), .val (.int (1 : Int32)), .val (.long (q1 &&& (9223372036854775807 : Int64))), .second, .val (.long (q2 &&& (9223372036854775807 : Int64))), .second, .val (.long lo), .second, .val (.long hi), .second, .val (.int (1 : Int32)), .val (.double (Jvm.FP.Core.ddiv (Jvm.FP.Core.l2d lo) (Jvm.FP.Core.l2d hi))), .second, .val (.double (Jvm.FP.Core.ddiv (Jvm.FP.Core.l2d hi) (Jvm.FP.Core.l2d lo))), .second] [(.double own_one64)])) _
      refine XS.dload X54.here hx rfl (hb hby at_221) rfl ?_
      show Steps p.tables e below (T54.setTop (mkF m 223 #[.val (.long q1), .second, .val (.long q2), .second, .val (.int p3), .val (.int p4), .val (.int p5), .val (.int (1 : Int32)), .val (.long xb), .second, .val (.long yb), .second, .val (.int (1 : Int32)), .val (.int (1 : Int32)), .val (.long (q1 &&& (9223372036854775807 : Int64))), .second, .val (.long (q2 &&& (9223372036854775807 : Int64))), .second, .val (.long lo), .second, .val (.long hi), .second, .val (.int (1 : Int32)), .val (.double (Jvm.FP.Core.ddiv (Jvm.FP.Core.l2d lo) (Jvm.FP.Core.l2d hi))), .second, .val (.double (Jvm.FP.Core.ddiv (Jvm.FP.Core.l2d hi) (Jvm.FP.Core.l2d lo))), .second] [(.double (Jvm.FP.Core.ddiv (Jvm.FP.Core.l2d hi) (Jvm.FP.Core.l2d lo))), (.double own_one64)])) _
      refine XS.dcmpS X54.here hx rfl (hb hby at_223) rfl rfl ?_
      have hc224 : ¬ ((0 : Int32) < (cmpValue (Jvm.FP.Core.dcmp own_one64 (Jvm.FP.Core.ddiv (Jvm.FP.Core.l2d hi) (Jvm.FP.Core.l2d lo))) .g)) := own_cle bd3
      show Steps p.tables e below (T54.setTop (mkF m 224 #[.val (.long q1), .second, .val (.long q2), .second, .val (.int p3), .val (.int p4), .val (.int p5), .val (.int (1 : Int32)), .val (.long xb), .second, .val (.long yb), .second, .val (.int (1 : Int32)), .val (.int (1 : Int32)), .val (.long (q1 &&& (9223372036854775807 : Int64))), .second, .val (.long (q2 &&& (9223372036854775807 : Int64))), .second, .val (.long lo), .second, .val (.long hi), .second, .val (.int (1 : Int32)), .val (.double (Jvm.FP.Core.ddiv (Jvm.FP.Core.l2d lo) (Jvm.FP.Core.l2d hi))), .second, .val (.double (Jvm.FP.Core.ddiv (Jvm.FP.Core.l2d hi) (Jvm.FP.Core.l2d lo))), .second] [(.int (cmpValue (Jvm.FP.Core.dcmp own_one64 (Jvm.FP.Core.ddiv (Jvm.FP.Core.l2d hi) (Jvm.FP.Core.l2d lo))) .g))])) _
      refine XS.ifNo X54.here hx rfl (hb hby at_224) rfl ((if0 _ _).trans (flt hc224).2.2.1) ?_
      show Steps p.tables e below (T54.setTop (mkF m 227 #[.val (.long q1), .second, .val (.long q2), .second, .val (.int p3), .val (.int p4), .val (.int p5), .val (.int (1 : Int32)), .val (.long xb), .second, .val (.long yb), .second, .val (.int (1 : Int32)), .val (.int (1 : Int32)), .val (.long (q1 &&& (9223372036854775807 : Int64))), .second, .val (.long (q2 &&& (9223372036854775807 : Int64))), .second, .val (.long lo), .second, .val (.long hi), .second, .val (.int (1 : Int32)), .val (.double (Jvm.FP.Core.ddiv (Jvm.FP.Core.l2d lo) (Jvm.FP.Core.l2d hi))), .second, .val (.double (Jvm.FP.Core.ddiv (Jvm.FP.Core.l2d hi) (Jvm.FP.Core.l2d lo))), .second] [])) _
      refine XS.iconst X54.here hx rfl (hb hby at_227) ?_
      show Steps p.tables e below (T54.setTop (mkF m 228 #[.val (.long q1), .second, .val (.long q2), .second, .val (.int p3), .val (.int p4), .val (.int p5), .val (.int (1 : Int32)), .val (.long xb), .second, .val (.long yb), .second, .val (.int (1 : Int32)), .val (.int (1 : Int32)), .val (.long (q1 &&& (9223372036854775807 : Int64))), .second, .val (.long (q2 &&& (9223372036854775807 : Int64))), .second, .val (.long lo), .second, .val (.long hi), .second, .val (.int (1 : Int32)), .val (.double (Jvm.FP.Core.ddiv (Jvm.FP.Core.l2d lo) (Jvm.FP.Core.l2d hi))), .second, .val (.double (Jvm.FP.Core.ddiv (Jvm.FP.Core.l2d hi) (Jvm.FP.Core.l2d lo))), .second] [(.int (1 : Int32))])) _
      refine XS.goto X54.here hx rfl (pc0 := 228) (pc' := 232) rfl (hb hby at_228) (by decide) (by decide) ?_
      show Steps p.tables e below (T54.setTop (mkF m 232 #[.val (.long q1), .second, .val (.long q2), .second, .val (.int p3), .val (.int p4), .val (.int p5), .val (.int (1 : Int32)), .val (.long xb), .second, .val (.long yb), .second, .val (.int (1 : Int32)), .val (.int (1 : Int32)), .val (.long (q1 &&& (9223372036854775807 : Int64))), .second, .val (.long (q2 &&& (9223372036854775807 : Int64))), .second, .val (.long lo), .second, .val (.long hi), .second, .val (.int (1 : Int32)), .val (.double (Jvm.FP.Core.ddiv (Jvm.FP.Core.l2d lo) (Jvm.FP.Core.l2d hi))), .second, .val (.double (Jvm.FP.Core.ddiv (Jvm.FP.Core.l2d hi) (Jvm.FP.Core.l2d lo))), .second] [(.int (1 : Int32))])) _
      refine XS.istore X54.here hx rfl (hb hby at_232) rfl (l' := #[.val (.long q1), .second, .val (.long q2), .second, .val (.int p3), .val (.int p4), .val (.int p5), .val (.int (1 : Int32)), .val (.long xb), .second, .val (.long yb), .second, .val (.int (1 : Int32)), .val (.int (1 : Int32)), .val (.long (q1 &&& (9223372036854775807 : Int64))), .second, .val (.long (q2 &&& (9223372036854775807 : Int64))), .second, .val (.long lo), .second, .val (.long hi), .second, .val (.int (1 : Int32)), .val (.double (Jvm.FP.Core.ddiv (Jvm.FP.Core.l2d lo) (Jvm.FP.Core.l2d hi))), .second, .val (.double (Jvm.FP.Core.ddiv (Jvm.FP.Core.l2d hi) (Jvm.FP.Core.l2d lo))), .second]) rfl ?_
      show Steps p.tables e below (T54.setTop (mkF m 234 #[.val (.long q1), .second, .val (.long q2), .second, .val (.int p3), .val (.int p4), .val (.int p5), .val (.int (1 : Int32)), .val (.long xb), .second, .val (.long yb), .second, .val (.int (1 : Int32)), .val (.int (1 : Int32)), .val (.long (q1 &&& (9223372036854775807 : Int64))), .second, .val (.long (q2 &&& (9223372036854775807 : Int64))), .second, .val (.long lo), .second, .val (.long hi), .second, .val (.int (1 : Int32)), .val (.double (Jvm.FP.Core.ddiv (Jvm.FP.Core.l2d lo) (Jvm.FP.Core.l2d hi))), .second, .val (.double (Jvm.FP.Core.ddiv (Jvm.FP.Core.l2d hi) (Jvm.FP.Core.l2d lo))), .second] [])) _
      refine XS.iload X54.here hx rfl (hb hby at_234) rfl ?_
      have hc236 : ¬ ((1 : Int32) = (0 : Int32)) := by decide
      show Steps p.tables e below (T54.setTop (mkF m 236 #[.val (.long q1), .second, .val (.long q2), .second, .val (.int p3), .val (.int p4), .val (.int p5), .val (.int (1 : Int32)), .val (.long xb), .second, .val (.long yb), .second, .val (.int (1 : Int32)), .val (.int (1 : Int32)), .val (.long (q1 &&& (9223372036854775807 : Int64))), .second, .val (.long (q2 &&& (9223372036854775807 : Int64))), .second, .val (.long lo), .second, .val (.long hi), .second, .val (.int (1 : Int32)), .val (.double (Jvm.FP.Core.ddiv (Jvm.FP.Core.l2d lo) (Jvm.FP.Core.l2d hi))), .second, .val (.double (Jvm.FP.Core.ddiv (Jvm.FP.Core.l2d hi) (Jvm.FP.Core.l2d lo))), .second] [(.int (1 : Int32))])) _
      refine XS.ifNo X54.here hx rfl (hb hby at_236) rfl ((if0 _ _).trans (feq hc236).1) ?_
      show Steps p.tables e below (T54.setTop (mkF m 239 #[.val (.long q1), .second, .val (.long q2), .second, .val (.int p3), .val (.int p4), .val (.int p5), .val (.int (1 : Int32)), .val (.long xb), .second, .val (.long yb), .second, .val (.int (1 : Int32)), .val (.int (1 : Int32)), .val (.long (q1 &&& (9223372036854775807 : Int64))), .second, .val (.long (q2 &&& (9223372036854775807 : Int64))), .second, .val (.long lo), .second, .val (.long hi), .second, .val (.int (1 : Int32)), .val (.double (Jvm.FP.Core.ddiv (Jvm.FP.Core.l2d lo) (Jvm.FP.Core.l2d hi))), .second, .val (.double (Jvm.FP.Core.ddiv (Jvm.FP.Core.l2d hi) (Jvm.FP.Core.l2d lo))), .second] [])) _
      refine XS.iload X54.here hx rfl (hb hby at_239) rfl ?_
      have hc241 : ¬ ((1 : Int32) = (0 : Int32)) := by decide
      show Steps p.tables e below (T54.setTop (mkF m 241 #[.val (.long q1), .second, .val (.long q2), .second, .val (.int p3), .val (.int p4), .val (.int p5), .val (.int (1 : Int32)), .val (.long xb), .second, .val (.long yb), .second, .val (.int (1 : Int32)), .val (.int (1 : Int32)), .val (.long (q1 &&& (9223372036854775807 : Int64))), .second, .val (.long (q2 &&& (9223372036854775807 : Int64))), .second, .val (.long lo), .second, .val (.long hi), .second, .val (.int (1 : Int32)), .val (.double (Jvm.FP.Core.ddiv (Jvm.FP.Core.l2d lo) (Jvm.FP.Core.l2d hi))), .second, .val (.double (Jvm.FP.Core.ddiv (Jvm.FP.Core.l2d hi) (Jvm.FP.Core.l2d lo))), .second] [(.int (1 : Int32))])) _
      refine XS.ifNo X54.here hx rfl (hb hby at_241) rfl ((if0 _ _).trans (feq hc241).1) ?_
      show Steps p.tables e below (T54.setTop (mkF m 244 #[.val (.long q1), .second, .val (.long q2), .second, .val (.int p3), .val (.int p4), .val (.int p5), .val (.int (1 : Int32)), .val (.long xb), .second, .val (.long yb), .second, .val (.int (1 : Int32)), .val (.int (1 : Int32)), .val (.long (q1 &&& (9223372036854775807 : Int64))), .second, .val (.long (q2 &&& (9223372036854775807 : Int64))), .second, .val (.long lo), .second, .val (.long hi), .second, .val (.int (1 : Int32)), .val (.double (Jvm.FP.Core.ddiv (Jvm.FP.Core.l2d lo) (Jvm.FP.Core.l2d hi))), .second, .val (.double (Jvm.FP.Core.ddiv (Jvm.FP.Core.l2d hi) (Jvm.FP.Core.l2d lo))), .second] [])) _
      refine XS.iload X54.here hx rfl (hb hby at_244) rfl ?_
      have hc246 : ¬ ((1 : Int32) = (0 : Int32)) := by decide
      show Steps p.tables e below (T54.setTop (mkF m 246 #[.val (.long q1), .second, .val (.long q2), .second, .val (.int p3), .val (.int p4), .val (.int p5), .val (.int (1 : Int32)), .val (.long xb), .second, .val (.long yb), .second, .val (.int (1 : Int32)), .val (.int (1 : Int32)), .val (.long (q1 &&& (9223372036854775807 : Int64))), .second, .val (.long (q2 &&& (9223372036854775807 : Int64))), .second, .val (.long lo), .second, .val (.long hi), .second, .val (.int (1 : Int32)), .val (.double (Jvm.FP.Core.ddiv (Jvm.FP.Core.l2d lo) (Jvm.FP.Core.l2d hi))), .second, .val (.double (Jvm.FP.Core.ddiv (Jvm.FP.Core.l2d hi) (Jvm.FP.Core.l2d lo))), .second] [(.int (1 : Int32))])) _
      refine XS.ifNo X54.here hx rfl (hb hby at_246) rfl ((if0 _ _).trans (feq hc246).1) ?_
      show Steps p.tables e below (T54.setTop (mkF m 249 #[.val (.long q1), .second, .val (.long q2), .second, .val (.int p3), .val (.int p4), .val (.int p5), .val (.int (1 : Int32)), .val (.long xb), .second, .val (.long yb), .second, .val (.int (1 : Int32)), .val (.int (1 : Int32)), .val (.long (q1 &&& (9223372036854775807 : Int64))), .second, .val (.long (q2 &&& (9223372036854775807 : Int64))), .second, .val (.long lo), .second, .val (.long hi), .second, .val (.int (1 : Int32)), .val (.double (Jvm.FP.Core.ddiv (Jvm.FP.Core.l2d lo) (Jvm.FP.Core.l2d hi))), .second, .val (.double (Jvm.FP.Core.ddiv (Jvm.FP.Core.l2d hi) (Jvm.FP.Core.l2d lo))), .second] [])) _
      refine XS.iload X54.here hx rfl (hb hby at_249) rfl ?_
      have hc251 : ¬ ((1 : Int32) = (0 : Int32)) := by decide
      show Steps p.tables e below (T54.setTop (mkF m 251 #[.val (.long q1), .second, .val (.long q2), .second, .val (.int p3), .val (.int p4), .val (.int p5), .val (.int (1 : Int32)), .val (.long xb), .second, .val (.long yb), .second, .val (.int (1 : Int32)), .val (.int (1 : Int32)), .val (.long (q1 &&& (9223372036854775807 : Int64))), .second, .val (.long (q2 &&& (9223372036854775807 : Int64))), .second, .val (.long lo), .second, .val (.long hi), .second, .val (.int (1 : Int32)), .val (.double (Jvm.FP.Core.ddiv (Jvm.FP.Core.l2d lo) (Jvm.FP.Core.l2d hi))), .second, .val (.double (Jvm.FP.Core.ddiv (Jvm.FP.Core.l2d hi) (Jvm.FP.Core.l2d lo))), .second] [(.int (1 : Int32))])) _
      refine XS.ifNo X54.here hx rfl (hb hby at_251) rfl ((if0 _ _).trans (feq hc251).1) ?_
      show Steps p.tables e below (T54.setTop (mkF m 254 #[.val (.long q1), .second, .val (.long q2), .second, .val (.int p3), .val (.int p4), .val (.int p5), .val (.int (1 : Int32)), .val (.long xb), .second, .val (.long yb), .second, .val (.int (1 : Int32)), .val (.int (1 : Int32)), .val (.long (q1 &&& (9223372036854775807 : Int64))), .second, .val (.long (q2 &&& (9223372036854775807 : Int64))), .second, .val (.long lo), .second, .val (.long hi), .second, .val (.int (1 : Int32)), .val (.double (Jvm.FP.Core.ddiv (Jvm.FP.Core.l2d lo) (Jvm.FP.Core.l2d hi))), .second, .val (.double (Jvm.FP.Core.ddiv (Jvm.FP.Core.l2d hi) (Jvm.FP.Core.l2d lo))), .second] [])) _
      refine XS.iconst X54.here hx rfl (hb hby at_254) ?_
      show Steps p.tables e below (T54.setTop (mkF m 255 #[.val (.long q1), .second, .val (.long q2), .second, .val (.int p3), .val (.int p4), .val (.int p5), .val (.int (1 : Int32)), .val (.long xb), .second, .val (.long yb), .second, .val (.int (1 : Int32)), .val (.int (1 : Int32)), .val (.long (q1 &&& (9223372036854775807 : Int64))), .second, .val (.long (q2 &&& (9223372036854775807 : Int64))), .second, .val (.long lo), .second, .val (.long hi), .second, .val (.int (1 : Int32)), .val (.double (Jvm.FP.Core.ddiv (Jvm.FP.Core.l2d lo) (Jvm.FP.Core.l2d hi))), .second, .val (.double (Jvm.FP.Core.ddiv (Jvm.FP.Core.l2d hi) (Jvm.FP.Core.l2d lo))), .second] [(.int (1 : Int32))])) _
      refine XS.goto X54.here hx rfl (pc0 := 255) (pc' := 259) rfl (hb hby at_255) (by decide) (by decide) ?_
      show Steps p.tables e below (T54.setTop (mkF m 259 #[.val (.long q1), .second, .val (.long q2), .second, .val (.int p3), .val (.int p4), .val (.int p5), .val (.int (1 : Int32)), .val (.long xb), .second, .val (.long yb), .second, .val (.int (1 : Int32)), .val (.int (1 : Int32)), .val (.long (q1 &&& (9223372036854775807 : Int64))), .second, .val (.long (q2 &&& (9223372036854775807 : Int64))), .second, .val (.long lo), .second, .val (.long hi), .second, .val (.int (1 : Int32)), .val (.double (Jvm.FP.Core.ddiv (Jvm.FP.Core.l2d lo) (Jvm.FP.Core.l2d hi))), .second, .val (.double (Jvm.FP.Core.ddiv (Jvm.FP.Core.l2d hi) (Jvm.FP.Core.l2d lo))), .second] [(.int (1 : Int32))])) _
      exact retN X54 hx (t := .boolean) Bd.returns (by simp) (hb hby at_259) hr
    · exact ⟨rfl, N54⟩
  · obtain ⟨fs, hr, hrun, hended, -, hW, hI, hsame⟩ := X36.leaveW Si25 (by rw [e36]; exact kcC) (v := some (.int (1 : Int32))) (fun h => by rw [Bd.returns] at h; cases h)
    refine ⟨_, _, pre38 _ ?_, hrun, hended, _, _, rfl, ?_, ⟨_, rfl⟩, hW, hI, hsame.mono (by decide) (by decide)⟩
    · show Steps p.tables e below (T36.setTop (mkF m 167 #[.val (.long q1), .second, .val (.long q2), .second, .val (.int p3), .val (.int p4), .val (.int p5), .val (.int (1 : Int32)), .val (.long xb), .second, .val (.long yb), .second, .val (.int (1 : Int32)), .val (.int (1 : Int32)), .val (.long (q1 &&& (9223372036854775807 : Int64))), .second, .val (.long (q2 &&& (9223372036854775807 : Int64))), .second, .val (.long lo), .second, .val (.long hi), .second, .val (.int (1 : Int32)), .unset, .unset, .unset, .unset] [(.int (lcmpW lo (0 : Int64)))])) _
      refine XS.ifYes X36.here hx rfl (pc0 := 167) (pc' := 234) rfl (hb hby at_167) rfl ((if0 _ _).trans (flt hc167).2.2.2) (by decide) (by decide) ?_
      show Steps p.tables e below (T36.setTop (mkF m 234 #[.val (.long q1), .second, .val (.long q2), .second, .val (.int p3), .val (.int p4), .val (.int p5), .val (.int (1 : Int32)), .val (.long xb), .second, .val (.long yb), .second, .val (.int (1 : Int32)), .val (.int (1 : Int32)), .val (.long (q1 &&& (9223372036854775807 : Int64))), .second, .val (.long (q2 &&& (9223372036854775807 : Int64))), .second, .val (.long lo), .second, .val (.long hi), .second, .val (.int (1 : Int32)), .unset, .unset, .unset, .unset] [])) _
      refine XS.iload X36.here hx rfl (hb hby at_234) rfl ?_
      have hc236 : ¬ ((1 : Int32) = (0 : Int32)) := by decide
      show Steps p.tables e below (T36.setTop (mkF m 236 #[.val (.long q1), .second, .val (.long q2), .second, .val (.int p3), .val (.int p4), .val (.int p5), .val (.int (1 : Int32)), .val (.long xb), .second, .val (.long yb), .second, .val (.int (1 : Int32)), .val (.int (1 : Int32)), .val (.long (q1 &&& (9223372036854775807 : Int64))), .second, .val (.long (q2 &&& (9223372036854775807 : Int64))), .second, .val (.long lo), .second, .val (.long hi), .second, .val (.int (1 : Int32)), .unset, .unset, .unset, .unset] [(.int (1 : Int32))])) _
      refine XS.ifNo X36.here hx rfl (hb hby at_236) rfl ((if0 _ _).trans (feq hc236).1) ?_
      show Steps p.tables e below (T36.setTop (mkF m 239 #[.val (.long q1), .second, .val (.long q2), .second, .val (.int p3), .val (.int p4), .val (.int p5), .val (.int (1 : Int32)), .val (.long xb), .second, .val (.long yb), .second, .val (.int (1 : Int32)), .val (.int (1 : Int32)), .val (.long (q1 &&& (9223372036854775807 : Int64))), .second, .val (.long (q2 &&& (9223372036854775807 : Int64))), .second, .val (.long lo), .second, .val (.long hi), .second, .val (.int (1 : Int32)), .unset, .unset, .unset, .unset] [])) _
      refine XS.iload X36.here hx rfl (hb hby at_239) rfl ?_
      have hc241 : ¬ ((1 : Int32) = (0 : Int32)) := by decide
      show Steps p.tables e below (T36.setTop (mkF m 241 #[.val (.long q1), .second, .val (.long q2), .second, .val (.int p3), .val (.int p4), .val (.int p5), .val (.int (1 : Int32)), .val (.long xb), .second, .val (.long yb), .second, .val (.int (1 : Int32)), .val (.int (1 : Int32)), .val (.long (q1 &&& (9223372036854775807 : Int64))), .second, .val (.long (q2 &&& (9223372036854775807 : Int64))), .second, .val (.long lo), .second, .val (.long hi), .second, .val (.int (1 : Int32)), .unset, .unset, .unset, .unset] [(.int (1 : Int32))])) _
      refine XS.ifNo X36.here hx rfl (hb hby at_241) rfl ((if0 _ _).trans (feq hc241).1) ?_
      show Steps p.tables e below (T36.setTop (mkF m 244 #[.val (.long q1), .second, .val (.long q2), .second, .val (.int p3), .val (.int p4), .val (.int p5), .val (.int (1 : Int32)), .val (.long xb), .second, .val (.long yb), .second, .val (.int (1 : Int32)), .val (.int (1 : Int32)), .val (.long (q1 &&& (9223372036854775807 : Int64))), .second, .val (.long (q2 &&& (9223372036854775807 : Int64))), .second, .val (.long lo), .second, .val (.long hi), .second, .val (.int (1 : Int32)), .unset, .unset, .unset, .unset] [])) _
      refine XS.iload X36.here hx rfl (hb hby at_244) rfl ?_
      have hc246 : ¬ ((1 : Int32) = (0 : Int32)) := by decide
      show Steps p.tables e below (T36.setTop (mkF m 246 #[.val (.long q1), .second, .val (.long q2), .second, .val (.int p3), .val (.int p4), .val (.int p5), .val (.int (1 : Int32)), .val (.long xb), .second, .val (.long yb), .second, .val (.int (1 : Int32)), .val (.int (1 : Int32)), .val (.long (q1 &&& (9223372036854775807 : Int64))), .second, .val (.long (q2 &&& (9223372036854775807 : Int64))), .second, .val (.long lo), .second, .val (.long hi), .second, .val (.int (1 : Int32)), .unset, .unset, .unset, .unset] [(.int (1 : Int32))])) _
      refine XS.ifNo X36.here hx rfl (hb hby at_246) rfl ((if0 _ _).trans (feq hc246).1) ?_
      show Steps p.tables e below (T36.setTop (mkF m 249 #[.val (.long q1), .second, .val (.long q2), .second, .val (.int p3), .val (.int p4), .val (.int p5), .val (.int (1 : Int32)), .val (.long xb), .second, .val (.long yb), .second, .val (.int (1 : Int32)), .val (.int (1 : Int32)), .val (.long (q1 &&& (9223372036854775807 : Int64))), .second, .val (.long (q2 &&& (9223372036854775807 : Int64))), .second, .val (.long lo), .second, .val (.long hi), .second, .val (.int (1 : Int32)), .unset, .unset, .unset, .unset] [])) _
      refine XS.iload X36.here hx rfl (hb hby at_249) rfl ?_
      have hc251 : ¬ ((1 : Int32) = (0 : Int32)) := by decide
      show Steps p.tables e below (T36.setTop (mkF m 251 #[.val (.long q1), .second, .val (.long q2), .second, .val (.int p3), .val (.int p4), .val (.int p5), .val (.int (1 : Int32)), .val (.long xb), .second, .val (.long yb), .second, .val (.int (1 : Int32)), .val (.int (1 : Int32)), .val (.long (q1 &&& (9223372036854775807 : Int64))), .second, .val (.long (q2 &&& (9223372036854775807 : Int64))), .second, .val (.long lo), .second, .val (.long hi), .second, .val (.int (1 : Int32)), .unset, .unset, .unset, .unset] [(.int (1 : Int32))])) _
      refine XS.ifNo X36.here hx rfl (hb hby at_251) rfl ((if0 _ _).trans (feq hc251).1) ?_
      show Steps p.tables e below (T36.setTop (mkF m 254 #[.val (.long q1), .second, .val (.long q2), .second, .val (.int p3), .val (.int p4), .val (.int p5), .val (.int (1 : Int32)), .val (.long xb), .second, .val (.long yb), .second, .val (.int (1 : Int32)), .val (.int (1 : Int32)), .val (.long (q1 &&& (9223372036854775807 : Int64))), .second, .val (.long (q2 &&& (9223372036854775807 : Int64))), .second, .val (.long lo), .second, .val (.long hi), .second, .val (.int (1 : Int32)), .unset, .unset, .unset, .unset] [])) _
      refine XS.iconst X36.here hx rfl (hb hby at_254) ?_
      show Steps p.tables e below (T36.setTop (mkF m 255 #[.val (.long q1), .second, .val (.long q2), .second, .val (.int p3), .val (.int p4), .val (.int p5), .val (.int (1 : Int32)), .val (.long xb), .second, .val (.long yb), .second, .val (.int (1 : Int32)), .val (.int (1 : Int32)), .val (.long (q1 &&& (9223372036854775807 : Int64))), .second, .val (.long (q2 &&& (9223372036854775807 : Int64))), .second, .val (.long lo), .second, .val (.long hi), .second, .val (.int (1 : Int32)), .unset, .unset, .unset, .unset] [(.int (1 : Int32))])) _
      refine XS.goto X36.here hx rfl (pc0 := 255) (pc' := 259) rfl (hb hby at_255) (by decide) (by decide) ?_
      show Steps p.tables e below (T36.setTop (mkF m 259 #[.val (.long q1), .second, .val (.long q2), .second, .val (.int p3), .val (.int p4), .val (.int p5), .val (.int (1 : Int32)), .val (.long xb), .second, .val (.long yb), .second, .val (.int (1 : Int32)), .val (.int (1 : Int32)), .val (.long (q1 &&& (9223372036854775807 : Int64))), .second, .val (.long (q2 &&& (9223372036854775807 : Int64))), .second, .val (.long lo), .second, .val (.long hi), .second, .val (.int (1 : Int32)), .unset, .unset, .unset, .unset] [(.int (1 : Int32))])) _
      exact retN X36 hx (t := .boolean) Bd.returns (by simp) (hb hby at_259) hr
    · exact ⟨rfl, N36⟩
set_option maxRecDepth 65536 in
set_option maxHeartbeats 40000000 in
theorem comes_1 {Post : Tables → Env → Array Value → State → Outcome → State → Prop} (hpost : ∀ tb e args s v u, (limb_1_1.after args s (.returned v) u = true ∧ limb_1_2.after args s (.returned v) u = true ∧ True) → Jvm.D.FramedW s (.returned v) u (Jvm.fieldLocs frame_1_writes args s ++ Jvm.arrayLocs frame_1_arrays args s ++ Jvm.staticLocs frame_1_statics s) 24 1152 → Post tb e args s (.returned v) u) :
    ArmFor flags0 classFile x code maxLocals ret World_1 tables_1 room_1 Calls_1 rest_1 Pre_1 Post := by
  intro l hfl _ _ p e ha hc hk s m args below hf hA hF happ hP
  obtain ⟨hcalls, hrest, hpre⟩ := hP
  obtain ⟨-, -, -, hnamed, -, -, -, hat⟩ := (Spec.applies_iff hf).mp happ
  obtain ⟨hg, hn⟩ := and_e (Cond.before_iff.mp (show (Jvm.Cond.and given_1 narrow_1).before args s = true from hpre))
  obtain ⟨gc, gr0⟩ := and_e hg
  obtain ⟨ga0, gr1⟩ := and_e gr0
  obtain ⟨ga1, gr2⟩ := and_e gr1
  obtain ⟨ga2, gr3⟩ := and_e gr2
  obtain ⟨ga3, gr4⟩ := and_e gr3
  obtain ⟨w0, w1, w2, w3, w4, rfl⟩ : ∃ w0 w1 w2 w3 w4 : Value, args = #[w0, w1, w2, w3, w4] := by
    have hs : args.size = 5 := by simpa [Cond.value, given_1] using gc
    obtain ⟨L⟩ := args
    match L, hs with
    | [w0, w1, w2, w3, w4], _ => exact ⟨w0, w1, w2, w3, w4, rfl⟩
  have hw := fun d (hd : d ∈ tables_1) => atoms_spec (ws := Jvm.Cond.code x code maxLocals ret :: tables_1) hat d (List.mem_cons_of_mem _ hd)
  have hfit : Fit s := fun {y c} hc i hi => by
    obtain ⟨ha, rfl⟩ := Array.getElem?_eq_some_iff.mp hc
    have q := List.all_eq_true.mp ((Array.all_eq_true_iff_forall_mem.mp hF) _ (Array.getElem_mem ha)) i (List.mem_range.mpr hi)
    simpa [Array.getElem?_eq_getElem hi] using q
  obtain ⟨i0, ei0⟩ := isL_v ga0
  obtain rfl : w0 = (.long i0) := Option.some.inj ei0
  obtain ⟨i1, ei1⟩ := isL_v ga1
  obtain rfl : w1 = (.long i1) := Option.some.inj ei1
  obtain ⟨i2, ei2⟩ := is_v ga2
  obtain rfl : w2 = (.int i2) := Option.some.inj ei2
  obtain ⟨i3, ei3⟩ := is_v ga3
  obtain rfl : w3 = (.int i3) := Option.some.inj ei3
  obtain ⟨i4, ei4⟩ := is_v gr4
  obtain rfl : w4 = (.int i4) := Option.some.inj ei4
  obtain ⟨n, o, h1, h2, h3, _, L, rfl, ⟨rfl, N⟩, hq⟩ := rm0 l s _ hw tables_1 i0 i1 i2 i3 i4 s.heap s.heap.size (Nat.le_refl _) p e ha hc hk s m _ below hf ((Spec.applies_iff_loose hf).mp happ).1 ⟨rfl, State.Warmed39.refl s, rfl⟩ trivial
  refine ⟨n, _, h1, h2, h3, hpost _ _ _ _ _ _ ⟨Cond.after_iff.mpr rfl, Cond.after_iff.mpr (eq_i res_at (Term.int_eval (1)) rfl), trivial⟩ ⟨hq.1, hq.2.1, hq.2.2.1, (hq.2.2.2.sift fun y hy => Or.inr (N y hy)).mono (by decide) (by decide)⟩⟩
theorem main_1_1 : Claimed_1_1 := comes_1 fun _ _ _ _ _ _ h hF => ⟨h.1, hF⟩
theorem main_1_2 : Claimed_1_2 := comes_1 fun _ _ _ _ _ _ h hF => ⟨h.2.1, hF⟩
end Jvm.Pilot.@@N@@
namespace Jvm.Pilot.@@N@@
open Jvm Jvm.ClassFile Sem Op Lib Jvm.Free Jvm.Stand Jvm.Pilot.@@N@@.Jvm.D
/-! MADE BY PROGRAM (witnessworld.py) out of the Statement's table words and the real class files: 16 classes; the members and pool entries that the words name. The judged class is class 1, her method 1. -/
namespace start1
open Jvm.ClassFile
def u (s : String) : CpInfo := .utf8 (stringToUtf16 s)
/-- a pool by its gaps: so many unusable entries, then the entry; so many at the end -/
def gap : Nat → List CpInfo → List CpInfo
  | 0, r => r
  | n + 1, r => .unusable :: gap n r
def poolList (es : List (Nat × CpInfo)) (last : Nat) : List CpInfo := es.foldr (fun e r => gap e.1 (e.2 :: r)) (gap last [])
def pool (es : List (Nat × CpInfo)) (last : Nat) : Array CpInfo := ⟨poolList es last⟩
def fileOf (pool : Array CpInfo) (this : Nat) (attrs : Array Attribute := #[]) (ms : Array MethodInfo := #[]) (fl : Nat := 33) (sup : Nat := 0) (ifs : Array Nat := #[]) (fds : Array FieldInfo := #[]) : ClassFile where
  minorVersion := 0
  majorVersion := 65
  constantPool := pool
  accessFlags := fl
  thisClass := this
  superClass := sup
  interfaces := ifs
  fields := fds
  methods := ms
  attributes := attrs
def plain (name : String) (sup : Option ClassId) : Class where
  name := name
  kind := .ordinary
  loader := none
  accessFlags := 33
  super := sup
  interfaces := #[]
  cf := none
  fields := #[]
  methods := #[]
  instanceTypes := #[]
  staticTypes := #[]
  resolved := #[]
  callSites := []
  init := .initialized
  statics := none
  mirror := none

def pool0 : Array CpInfo := pool [(5, u "<init>"), (0, u "()V"), (1, .class_ 10), (1, u "java/lang/Object")] 113

def k0c0 : Code := { maxStack := 0, maxLocals := 1, code := object_method_1_code, exceptionTable := #[], attributes := #[] }
def k0m0 : Method := { name := "<init>", desc := "()V", sig := { parameters := [], returnType := none }, accessFlags := 1, code := some k0c0 }
/-- java/lang/Object -/
def k0 : Class := { plain "java/lang/Object" none with
  accessFlags := 33
  interfaces := #[]
  cf := some (fileOf pool0 8 #[] #[{ accessFlags := 1, nameIndex := 5, descriptorIndex := 6, attributes := #[] }] 33 0 #[] #[])
  fields := #[]
  methods := #[k0m0]
  instanceTypes := #[]
  staticTypes := #[]
  resolved := Array.replicate 124 none
  statics := none }

def pool1 : Array CpInfo := pool [(2, .class_ 4), (1, u "java/lang/Object"), (0, u "<init>"), (0, u "()V"), (0, .class_ 8), (0, u "canonsign/cli/SigningSpeed"), (0, .string 10), (0, u ""), (0, .methodref 7 12), (0, .nameAndType 5 13), (0, u "(Ljava/lang/String;JJ)V"), (0, .methodref 7 15), (0, .nameAndType 16 17), (0, u "ratio"), (0, u "()D"), (0, .long 2), (1, .double 4602678819172646912), (3, .long 9223372036854775807), (1, .methodref 27 28), (0, .class_ 29), (0, .nameAndType 30 31), (0, u "java/lang/Math"), (0, u "min"), (0, u "(JJ)J"), (0, .methodref 27 33), (0, .nameAndType 34 31), (0, u "max"), (0, .class_ 36), (0, u "canonsign/cli/SigningSpeedRatioPinLaw"), (2, u "law"), (0, u "(JJIII)Z")] 3

def k1m0 : Method := { name := "<init>", desc := "()V", sig := { parameters := [], returnType := none }, accessFlags := 1, code := none }
def k1c1 : Code := { maxStack := 7, maxLocals := 27, code := code, exceptionTable := #[], attributes := #[] }
def k1m1 : Method := { name := "law", desc := "(JJIII)Z", sig := { parameters := [.long, .long, .int, .int, .int], returnType := some .boolean }, accessFlags := 9, code := some k1c1 }
/-- canonsign/cli/SigningSpeedRatioPinLaw -/
def k1 : Class := { plain "canonsign/cli/SigningSpeedRatioPinLaw" (some 0) with
  accessFlags := 49
  interfaces := #[]
  cf := some (fileOf pool1 35 #[] #[{ accessFlags := 1, nameIndex := 5, descriptorIndex := 6, attributes := #[] }, { accessFlags := 9, nameIndex := 39, descriptorIndex := 40, attributes := #[] }] 49 2 #[] #[])
  fields := #[]
  methods := #[k1m0, k1m1]
  instanceTypes := #[]
  staticTypes := #[]
  resolved := Array.replicate 44 none
  statics := none }

def pool2 : Array CpInfo := pool [(1, .methodref 2 3), (0, .class_ 4), (0, .nameAndType 5 6), (0, u "java/lang/Object"), (0, u "<init>"), (0, u "()V"), (0, .class_ 8), (0, u "java/lang/Record")] 13

def k2c0 : Code := { maxStack := 1, maxLocals := 1, code := jdk_30_method_1_code, exceptionTable := #[], attributes := #[] }
def k2m0 : Method := { name := "<init>", desc := "()V", sig := { parameters := [], returnType := none }, accessFlags := 4, code := some k2c0 }
/-- java/lang/Record -/
def k2 : Class := { plain "java/lang/Record" (some 0) with
  accessFlags := 1057
  interfaces := #[]
  cf := some (fileOf pool2 7 #[] #[{ accessFlags := 4, nameIndex := 5, descriptorIndex := 6, attributes := #[] }] 1057 2 #[] #[])
  fields := #[]
  methods := #[k2m0]
  instanceTypes := #[]
  staticTypes := #[]
  resolved := Array.replicate 22 none
  statics := none }

def pool3 : Array CpInfo := pool [(1, .methodref 2 3), (0, .class_ 4), (0, .nameAndType 5 6), (0, u "java/lang/Record"), (0, u "<init>"), (0, u "()V"), (0, .fieldref 8 9), (0, .class_ 10), (0, .nameAndType 11 12), (0, u "canonsign/cli/SigningSpeed"), (0, u "signature"), (0, u "Ljava/lang/String;"), (0, .fieldref 8 14), (0, .nameAndType 15 16), (0, u "signNanos"), (0, u "J"), (0, .fieldref 8 18), (0, .nameAndType 19 16), (0, u "hmacNanos"), (31, u "(Ljava/lang/String;JJ)V"), (22, u "sink"), (0, u "I"), (30, u "ratio"), (0, u "()D"), (36, u "ROUND_TIME"), (0, u "Ljava/time/Duration;"), (75, u "WARM_UP_OPERATIONS"), (1, u "ROUNDS"), (1, u "ROUND_OPERATIONS"), (0, u "BATCH"), (1, u "HMAC_SHA256")] 56

def k3c0 : Code := { maxStack := 3, maxLocals := 6, code := prog_37_method_1_code, exceptionTable := #[], attributes := #[] }
def k3m0 : Method := { name := "<init>", desc := "(Ljava/lang/String;JJ)V", sig := { parameters := [(.object "java/lang/String"), .long, .long], returnType := none }, accessFlags := 0, code := some k3c0 }
def k3c1 : Code := { maxStack := 4, maxLocals := 1, code := prog_37_method_5_code, exceptionTable := #[], attributes := #[] }
def k3m1 : Method := { name := "ratio", desc := "()D", sig := { parameters := [], returnType := some .double }, accessFlags := 0, code := some k3c1 }
/-- canonsign/cli/SigningSpeed -/
def k3 : Class := { plain "canonsign/cli/SigningSpeed" (some 2) with
  accessFlags := 48
  interfaces := #[]
  cf := some (fileOf pool3 8 #[] #[{ accessFlags := 0, nameIndex := 5, descriptorIndex := 51, attributes := #[] }, { accessFlags := 0, nameIndex := 106, descriptorIndex := 107, attributes := #[] }] 48 2 #[] #[{ accessFlags := 18, nameIndex := 11, descriptorIndex := 12, attributes := #[] }, { accessFlags := 18, nameIndex := 15, descriptorIndex := 16, attributes := #[] }, { accessFlags := 18, nameIndex := 19, descriptorIndex := 16, attributes := #[] }, { accessFlags := 26, nameIndex := 221, descriptorIndex := 75, attributes := #[] }, { accessFlags := 26, nameIndex := 223, descriptorIndex := 75, attributes := #[] }, { accessFlags := 26, nameIndex := 225, descriptorIndex := 16, attributes := #[] }, { accessFlags := 26, nameIndex := 144, descriptorIndex := 145, attributes := #[] }, { accessFlags := 26, nameIndex := 226, descriptorIndex := 75, attributes := #[] }, { accessFlags := 26, nameIndex := 228, descriptorIndex := 12, attributes := #[] }, { accessFlags := 10, nameIndex := 74, descriptorIndex := 75, attributes := #[] }])
  fields := #[{ name := "signature", type := (.object "java/lang/String"), accessFlags := 18, slot := 0, constantValue := 0 }, { name := "signNanos", type := .long, accessFlags := 18, slot := 1, constantValue := 0 }, { name := "hmacNanos", type := .long, accessFlags := 18, slot := 2, constantValue := 0 }, { name := "WARM_UP_OPERATIONS", type := .int, accessFlags := 26, slot := 0, constantValue := 0 }, { name := "ROUNDS", type := .int, accessFlags := 26, slot := 1, constantValue := 0 }, { name := "ROUND_OPERATIONS", type := .long, accessFlags := 26, slot := 2, constantValue := 0 }, { name := "ROUND_TIME", type := (.object "java/time/Duration"), accessFlags := 26, slot := 3, constantValue := 0 }, { name := "BATCH", type := .int, accessFlags := 26, slot := 4, constantValue := 0 }, { name := "HMAC_SHA256", type := (.object "java/lang/String"), accessFlags := 26, slot := 5, constantValue := 0 }, { name := "sink", type := .int, accessFlags := 10, slot := 6, constantValue := 0 }]
  methods := #[k3m0, k3m1]
  instanceTypes := #[(.object "java/lang/String"), .long, .long]
  staticTypes := #[.int, .int, .long, (.object "java/time/Duration"), .int, (.object "java/lang/String"), .int]
  resolved := Array.replicate 285 none
  statics := none }

def pool4 : Array CpInfo := pool [(1, .class_ 2), (0, u "java/io/Serializable"), (0, .class_ 4), (0, u "java/lang/Object")] 2

/-- java/io/Serializable -/
def k4 : Class := { plain "java/io/Serializable" (some 0) with
  accessFlags := 1537
  interfaces := #[]
  cf := some (fileOf pool4 1 #[] #[] 1537 3 #[] #[])
  fields := #[]
  methods := #[]
  instanceTypes := #[]
  staticTypes := #[]
  resolved := Array.replicate 7 none
  statics := none }

def pool5 : Array CpInfo := pool [(1, .class_ 2), (0, u "java/lang/Comparable"), (0, .class_ 4), (0, u "java/lang/Object")] 7

/-- java/lang/Comparable -/
def k5 : Class := { plain "java/lang/Comparable" (some 0) with
  accessFlags := 1537
  interfaces := #[]
  cf := some (fileOf pool5 1 #[] #[] 1537 3 #[] #[])
  fields := #[]
  methods := #[]
  instanceTypes := #[]
  staticTypes := #[]
  resolved := Array.replicate 12 none
  statics := none }

def pool6 : Array CpInfo := pool [(2, .class_ 4), (1, u "java/lang/CharSequence"), (42, .class_ 48), (0, u "java/lang/CharSequence$1CodePointIterator"), (10, .class_ 60), (0, u "java/lang/CharSequence$1CharIterator"), (5, .class_ 67), (0, u "java/lang/Object")] 63

/-- java/lang/CharSequence -/
def k6 : Class := { plain "java/lang/CharSequence" (some 0) with
  accessFlags := 1537
  interfaces := #[]
  cf := some (fileOf pool6 2 #[.nestMembers #[47, 59]] #[] 1537 66 #[] #[])
  fields := #[]
  methods := #[]
  instanceTypes := #[]
  staticTypes := #[]
  resolved := Array.replicate 131 none
  statics := none }

def pool7 : Array CpInfo := pool [(1, .class_ 2), (0, u "java/lang/constant/Constable"), (0, .class_ 4), (0, u "java/lang/Object")] 6

/-- java/lang/constant/Constable -/
def k7 : Class := { plain "java/lang/constant/Constable" (some 0) with
  accessFlags := 1537
  interfaces := #[]
  cf := some (fileOf pool7 1 #[] #[] 1537 3 #[] #[])
  fields := #[]
  methods := #[]
  instanceTypes := #[]
  staticTypes := #[]
  resolved := Array.replicate 11 none
  statics := none }

def pool8 : Array CpInfo := pool [(1, .class_ 2), (0, u "java/lang/constant/ConstantDesc"), (0, .class_ 4), (0, u "java/lang/Object")] 32

/-- java/lang/constant/ConstantDesc -/
def k8 : Class := { plain "java/lang/constant/ConstantDesc" (some 0) with
  accessFlags := 1537
  interfaces := #[]
  cf := some (fileOf pool8 1 #[] #[] 1537 3 #[] #[])
  fields := #[]
  methods := #[]
  instanceTypes := #[]
  staticTypes := #[]
  resolved := Array.replicate 37 none
  statics := none }

def pool9 : Array CpInfo := pool [(2, .class_ 4), (1, u "java/lang/Object"), (0, u "<init>"), (0, u "()V"), (3, .class_ 12), (1, u "java/lang/String"), (0, u "value"), (0, u "[B"), (2, u "coder"), (0, u "B"), (2, u "hash"), (0, u "I"), (2, u "hashIsZero"), (0, u "Z"), (13, u "COMPACT_STRINGS"), (534, .class_ 576), (0, u "java/lang/CharSequence"), (22, u "CASE_INSENSITIVE_ORDER"), (0, u "Ljava/util/Comparator;"), (500, u "serialPersistentFields"), (0, u "[Ljava/io/ObjectStreamField;"), (0, .class_ 1104), (0, u "java/lang/String$CaseInsensitiveComparator"), (1, .class_ 1107), (0, u "java/io/Serializable"), (0, .class_ 1109), (0, u "java/lang/Comparable"), (0, .class_ 1111), (0, u "java/lang/constant/Constable"), (0, .class_ 1113), (0, u "java/lang/constant/ConstantDesc"), (2, u "serialVersionUID"), (0, u "J"), (3, u "REPL"), (0, u "C"), (2, u "LATIN1"), (1, u "UTF16")] 323

def k9m0 : Method := { name := "<init>", desc := "()V", sig := { parameters := [], returnType := none }, accessFlags := 1, code := none }
/-- java/lang/String -/
def k9 : Class := { plain "java/lang/String" (some 0) with
  accessFlags := 49
  interfaces := #[4, 5, 6, 7, 8]
  cf := some (fileOf pool9 10 #[.nestMembers #[1103]] #[{ accessFlags := 1, nameIndex := 5, descriptorIndex := 6, attributes := #[] }] 49 2 #[1106, 1108, 575, 1110, 1112] #[{ accessFlags := 18, nameIndex := 13, descriptorIndex := 14, attributes := #[] }, { accessFlags := 18, nameIndex := 17, descriptorIndex := 18, attributes := #[] }, { accessFlags := 2, nameIndex := 21, descriptorIndex := 22, attributes := #[] }, { accessFlags := 2, nameIndex := 25, descriptorIndex := 26, attributes := #[] }, { accessFlags := 26, nameIndex := 1116, descriptorIndex := 1117, attributes := #[] }, { accessFlags := 24, nameIndex := 40, descriptorIndex := 26, attributes := #[] }, { accessFlags := 26, nameIndex := 1101, descriptorIndex := 1102, attributes := #[] }, { accessFlags := 26, nameIndex := 1121, descriptorIndex := 1122, attributes := #[] }, { accessFlags := 25, nameIndex := 599, descriptorIndex := 600, attributes := #[] }, { accessFlags := 24, nameIndex := 1125, descriptorIndex := 18, attributes := #[] }, { accessFlags := 24, nameIndex := 1127, descriptorIndex := 18, attributes := #[] }])
  fields := #[{ name := "value", type := (.array .byte), accessFlags := 18, slot := 0, constantValue := 0 }, { name := "coder", type := .byte, accessFlags := 18, slot := 1, constantValue := 0 }, { name := "hash", type := .int, accessFlags := 2, slot := 2, constantValue := 0 }, { name := "hashIsZero", type := .boolean, accessFlags := 2, slot := 3, constantValue := 0 }, { name := "serialVersionUID", type := .long, accessFlags := 26, slot := 0, constantValue := 0 }, { name := "COMPACT_STRINGS", type := .boolean, accessFlags := 24, slot := 1, constantValue := 0 }, { name := "serialPersistentFields", type := (.array (.object "java/io/ObjectStreamField")), accessFlags := 26, slot := 2, constantValue := 0 }, { name := "REPL", type := .char, accessFlags := 26, slot := 3, constantValue := 0 }, { name := "CASE_INSENSITIVE_ORDER", type := (.object "java/util/Comparator"), accessFlags := 25, slot := 4, constantValue := 0 }, { name := "LATIN1", type := .byte, accessFlags := 24, slot := 5, constantValue := 0 }, { name := "UTF16", type := .byte, accessFlags := 24, slot := 6, constantValue := 0 }]
  methods := #[k9m0]
  instanceTypes := #[(.array .byte), .byte, .int, .boolean]
  staticTypes := #[.long, .boolean, (.array (.object "java/io/ObjectStreamField")), .char, (.object "java/util/Comparator"), .byte, .byte]
  resolved := Array.replicate 1451 none
  statics := none }

def pool10 : Array CpInfo := pool [(1, .class_ 2), (0, u "java/lang/Math"), (1, .class_ 6), (1, u "java/lang/Object"), (0, u "<init>"), (0, u "()V"), (89, .class_ 100), (1, u "java/lang/Math$RandomNumberGeneratorHolder"), (20, u "(JJ)J"), (50, u "negativeZeroFloatBits"), (0, u "J"), (2, u "negativeZeroDoubleBits"), (21, u "max"), (2, u "min"), (43, u "$assertionsDisabled"), (0, u "Z"), (91, u "twoToTheDoubleScaleDown"), (0, u "D"), (4, u "twoToTheDoubleScaleUp"), (9, u "E"), (3, u "PI"), (2, u "TAU"), (2, u "DEGREES_TO_RADIANS"), (0, u "RADIANS_TO_DEGREES")] 94

def k10m0 : Method := { name := "<init>", desc := "()V", sig := { parameters := [], returnType := none }, accessFlags := 2, code := none }
def k10c1 : Code := { maxStack := 4, maxLocals := 4, code := jdk_29_method_66_code, exceptionTable := #[], attributes := #[] }
def k10m1 : Method := { name := "max", desc := "(JJ)J", sig := { parameters := [.long, .long], returnType := some .long }, accessFlags := 9, code := some k10c1 }
def k10c2 : Code := { maxStack := 4, maxLocals := 4, code := jdk_29_method_70_code, exceptionTable := #[], attributes := #[] }
def k10m2 : Method := { name := "min", desc := "(JJ)J", sig := { parameters := [.long, .long], returnType := some .long }, accessFlags := 9, code := some k10c2 }
/-- java/lang/Math -/
def k10 : Class := { plain "java/lang/Math" (some 0) with
  accessFlags := 49
  interfaces := #[]
  cf := some (fileOf pool10 1 #[.nestMembers #[98]] #[{ accessFlags := 2, nameIndex := 7, descriptorIndex := 8, attributes := #[] }, { accessFlags := 9, nameIndex := 198, descriptorIndex := 121, attributes := #[] }, { accessFlags := 9, nameIndex := 201, descriptorIndex := 121, attributes := #[] }] 49 4 #[] #[{ accessFlags := 25, nameIndex := 354, descriptorIndex := 339, attributes := #[] }, { accessFlags := 25, nameIndex := 358, descriptorIndex := 339, attributes := #[] }, { accessFlags := 25, nameIndex := 361, descriptorIndex := 339, attributes := #[] }, { accessFlags := 26, nameIndex := 364, descriptorIndex := 339, attributes := #[] }, { accessFlags := 26, nameIndex := 365, descriptorIndex := 339, attributes := #[] }, { accessFlags := 26, nameIndex := 172, descriptorIndex := 173, attributes := #[] }, { accessFlags := 26, nameIndex := 176, descriptorIndex := 173, attributes := #[] }, { accessFlags := 8, nameIndex := 344, descriptorIndex := 339, attributes := #[] }, { accessFlags := 8, nameIndex := 338, descriptorIndex := 339, attributes := #[] }, { accessFlags := 4120, nameIndex := 245, descriptorIndex := 246, attributes := #[] }])
  fields := #[{ name := "E", type := .double, accessFlags := 25, slot := 0, constantValue := 0 }, { name := "PI", type := .double, accessFlags := 25, slot := 1, constantValue := 0 }, { name := "TAU", type := .double, accessFlags := 25, slot := 2, constantValue := 0 }, { name := "DEGREES_TO_RADIANS", type := .double, accessFlags := 26, slot := 3, constantValue := 0 }, { name := "RADIANS_TO_DEGREES", type := .double, accessFlags := 26, slot := 4, constantValue := 0 }, { name := "negativeZeroFloatBits", type := .long, accessFlags := 26, slot := 5, constantValue := 0 }, { name := "negativeZeroDoubleBits", type := .long, accessFlags := 26, slot := 6, constantValue := 0 }, { name := "twoToTheDoubleScaleUp", type := .double, accessFlags := 8, slot := 7, constantValue := 0 }, { name := "twoToTheDoubleScaleDown", type := .double, accessFlags := 8, slot := 8, constantValue := 0 }, { name := "$assertionsDisabled", type := .boolean, accessFlags := 4120, slot := 9, constantValue := 0 }]
  methods := #[k10m0, k10m1, k10m2]
  instanceTypes := #[]
  staticTypes := #[.double, .double, .double, .double, .double, .long, .long, .double, .double, .boolean]
  resolved := Array.replicate 460 none
  statics := none }

def pool11 : Array CpInfo := pool [(1, u "java/lang/Cloneable"), (0, .class_ 1), (0, u "java/lang/Object"), (0, .class_ 3)] 3

/-- java/lang/Cloneable -/
def k11 : Class := { plain "java/lang/Cloneable" (some 0) with
  accessFlags := 1537
  interfaces := #[]
  cf := some (fileOf pool11 2 #[] #[] 1537 4 #[] #[])
  fields := #[]
  methods := #[]
  instanceTypes := #[]
  staticTypes := #[]
  resolved := Array.replicate 8 none
  statics := none }

/-- the primitive byte -/
def k12 : Class := { plain "byte" none with kind := .primitive 'B', accessFlags := 0x411 }
/-- [B -/
def k13 : Class := { plain "[B" (some 0) with kind := .array 12 .byte, interfaces := #[11, 4], accessFlags := 1041 }

/-- the primitive int -/
def k14 : Class := { plain "int" none with kind := .primitive 'I', accessFlags := 0x411 }
/-- [I -/
def k15 : Class := { plain "[I" (some 0) with kind := .array 14 .int, interfaces := #[11, 4], accessFlags := 1041 }

def heap : Heap := #[]
def classes : Array Class := #[k0, k1, k2, k3, k4, k5, k6, k7, k8, k9, k10, k11, k12, k13, k14, k15]
def interned : List (Array UInt16 × Addr) := []
def slotsUsed : Nat := 0
def theMethod : MethodId := ⟨1, 1⟩
def args0 : Array Value := #[.long 5, .long 7, .int 3, .int 4, .int 9]
def aboutOver (below : List Frame) : State where
  vm := { classes := classes, interned := interned.toArray }
  heap := heap
  slotsUsed := slotsUsed
  threads := #[{ frames := .invoking theMethod args0 :: below }]
def below0 : List Frame := [.native { method := ⟨0, 0⟩, args := #[] }]
def about1 : State := aboutOver below0
def p0 : Program := .bare "" "" ""
def e0 : Env := launch0.env 0 0 0
theorem w_frames : about1.frames = Frame.invoking theMethod args0 :: below0 := rfl
set_option maxRecDepth 65536 in
theorem w_args : argsFit about1.vm theMethod args0 = true := by decide +kernel
set_option maxRecDepth 65536 in
theorem w_heap : heapFits about1 = true := by decide +kernel
set_option maxRecDepth 65536 in
theorem w_runnable : about1.curStatus? = some .runnable := by decide +kernel
set_option maxRecDepth 65536 in
theorem w_alone : about1.alone = true := by decide +kernel
set_option maxRecDepth 65536 in
theorem w_named : about1.methodNamed? x = some theMethod := by decide +kernel
set_option maxRecDepth 65536 in
theorem w_hears : about1.hears theMethod below0 = true := by decide +kernel
set_option maxRecDepth 65536 in
theorem w_ripe : about1.ripe theMethod args0 below0 = true := by decide +kernel
theorem w_running : about1.status = .running := rfl
set_option maxRecDepth 65536 in
theorem w_room : about1.hasRoom e0.platform room_1 = true :=
  launch0.hasRoom_least _ room_1 (by decide +kernel) (by decide +kernel) (by decide +kernel) (by decide +kernel) (by decide +kernel) (by decide +kernel)
theorem allAtoms_all (ts : List Jvm.Cond) (a : Array Jvm.Value) (st : Jvm.State) : (allAtoms ts).before a st = ts.all (fun c => c.before a st) := by
  induction ts with
  | nil => rfl
  | cons c t ih =>
    show (Jvm.Cond.and c (allAtoms t)).before a st = _
    rw [Jvm.Cond.before_and, ih, List.all_cons]
def words1 : List Jvm.Cond := Jvm.Cond.code x code maxLocals ret :: tables_1
/-- a 'code' word, met by the world's own term for the bytes: nothing is compared byte by byte -/
theorem code_word {y : MethodName} {bytes : ByteArray} {mx : Nat} {rt : Option FieldType} {a : Array Value} {s : State} {m : MethodId} {meth : Method} {c : Code} (h1 : s.methodNamed? y = some m) (h2 : s.vm.method? m = some meth) (h3 : meth.code = some c) (h4 : c.code = bytes)
    (h5 : (c.maxLocals == mx && c.exceptionTable.isEmpty && decide (c.maxStack ≤ mostOperands) && decide (meth.sig.returnType = rt) && !meth.locks && decide (parseMethodDescriptor y.desc = some meth.sig)) = true) : (Jvm.Cond.code y bytes mx rt).before a s = true := by
  simp only [Bool.and_eq_true, beq_iff_eq, Bool.not_eq_true', decide_eq_true_eq] at h5
  obtain ⟨⟨⟨⟨⟨g1, g2⟩, g3⟩, g4⟩, g5⟩, g6⟩ := h5
  simp [Cond.before, Cond.holds, Cond.value, h1, h2, h3, h4, g1, g2, g3, g4, g5, g6]
def isCode : Jvm.Cond → Bool
  | .code _ _ _ _ => true
  | _ => false
theorem all_split {L : List Jvm.Cond} {P : Jvm.Cond → Bool} (h1 : L.all (fun c => isCode c || P c) = true) (h2 : ∀ c ∈ L.filter isCode, P c = true) : L.all P = true := by
  refine List.all_eq_true.mpr fun c hc => ?_
  have h := List.all_eq_true.mp h1 c hc
  rcases Bool.eq_false_or_eq_true (isCode c) with hi | hi
  · exact h2 c (List.mem_filter.mpr ⟨hc, hi⟩)
  · simpa [hi] using h
set_option maxRecDepth 65536 in
theorem w_c0 : (Jvm.Cond.code x code maxLocals ret).before args0 about1 = true := code_word (m := ⟨1, 1⟩) (meth := k1m1) (c := k1c1) (by decide +kernel) rfl rfl rfl (by decide +kernel)
set_option maxRecDepth 65536 in
theorem w_c1 : (Jvm.Cond.code ({ cls := "canonsign/cli/SigningSpeed", name := "<init>", desc := "(Ljava/lang/String;JJ)V" } : Jvm.MethodName) prog_37_method_1_code (6 : Nat) (Option.none : Option Jvm.ClassFile.FieldType)).before args0 about1 = true := code_word (m := ⟨3, 0⟩) (meth := k3m0) (c := k3c0) (by decide +kernel) rfl rfl rfl (by decide +kernel)
set_option maxRecDepth 65536 in
theorem w_c2 : (Jvm.Cond.code ({ cls := "java/lang/Record", name := "<init>", desc := "()V" } : Jvm.MethodName) jdk_30_method_1_code (1 : Nat) (Option.none : Option Jvm.ClassFile.FieldType)).before args0 about1 = true := code_word (m := ⟨2, 0⟩) (meth := k2m0) (c := k2c0) (by decide +kernel) rfl rfl rfl (by decide +kernel)
set_option maxRecDepth 65536 in
theorem w_c3 : (Jvm.Cond.code ({ cls := "java/lang/Object", name := "<init>", desc := "()V" } : Jvm.MethodName) object_method_1_code (1 : Nat) (Option.none : Option Jvm.ClassFile.FieldType)).before args0 about1 = true := code_word (m := ⟨0, 0⟩) (meth := k0m0) (c := k0c0) (by decide +kernel) rfl rfl rfl (by decide +kernel)
set_option maxRecDepth 65536 in
theorem w_c4 : (Jvm.Cond.code ({ cls := "canonsign/cli/SigningSpeed", name := "ratio", desc := "()D" } : Jvm.MethodName) prog_37_method_5_code (1 : Nat) (Option.some Jvm.ClassFile.FieldType.double)).before args0 about1 = true := code_word (m := ⟨3, 1⟩) (meth := k3m1) (c := k3c1) (by decide +kernel) rfl rfl rfl (by decide +kernel)
set_option maxRecDepth 65536 in
theorem w_c5 : (Jvm.Cond.code ({ cls := "java/lang/Math", name := "min", desc := "(JJ)J" } : Jvm.MethodName) jdk_29_method_70_code (4 : Nat) (Option.some Jvm.ClassFile.FieldType.long)).before args0 about1 = true := code_word (m := ⟨10, 2⟩) (meth := k10m2) (c := k10c2) (by decide +kernel) rfl rfl rfl (by decide +kernel)
set_option maxRecDepth 65536 in
theorem w_c6 : (Jvm.Cond.code ({ cls := "java/lang/Math", name := "max", desc := "(JJ)J" } : Jvm.MethodName) jdk_29_method_66_code (4 : Nat) (Option.some Jvm.ClassFile.FieldType.long)).before args0 about1 = true := code_word (m := ⟨10, 1⟩) (meth := k10m1) (c := k10c1) (by decide +kernel) rfl rfl rfl (by decide +kernel)
def codes1 : List Jvm.Cond := [Jvm.Cond.code x code maxLocals ret, Jvm.Cond.code ({ cls := "canonsign/cli/SigningSpeed", name := "<init>", desc := "(Ljava/lang/String;JJ)V" } : Jvm.MethodName) prog_37_method_1_code (6 : Nat) (Option.none : Option Jvm.ClassFile.FieldType), Jvm.Cond.code ({ cls := "java/lang/Record", name := "<init>", desc := "()V" } : Jvm.MethodName) jdk_30_method_1_code (1 : Nat) (Option.none : Option Jvm.ClassFile.FieldType), Jvm.Cond.code ({ cls := "java/lang/Object", name := "<init>", desc := "()V" } : Jvm.MethodName) object_method_1_code (1 : Nat) (Option.none : Option Jvm.ClassFile.FieldType), Jvm.Cond.code ({ cls := "canonsign/cli/SigningSpeed", name := "ratio", desc := "()D" } : Jvm.MethodName) prog_37_method_5_code (1 : Nat) (Option.some Jvm.ClassFile.FieldType.double), Jvm.Cond.code ({ cls := "java/lang/Math", name := "min", desc := "(JJ)J" } : Jvm.MethodName) jdk_29_method_70_code (4 : Nat) (Option.some Jvm.ClassFile.FieldType.long), Jvm.Cond.code ({ cls := "java/lang/Math", name := "max", desc := "(JJ)J" } : Jvm.MethodName) jdk_29_method_66_code (4 : Nat) (Option.some Jvm.ClassFile.FieldType.long)]
set_option maxRecDepth 65536 in
theorem codes_eq : words1.filter isCode = codes1 := rfl
theorem w_codes : ∀ c ∈ words1.filter isCode, c.before args0 about1 = true := by
  rw [codes_eq]
  intro c hc
  simp only [codes1, List.mem_cons, List.not_mem_nil, or_false] at hc
  rcases hc with rfl | rfl | rfl | rfl | rfl | rfl | rfl
  · exact w_c0
  · exact w_c1
  · exact w_c2
  · exact w_c3
  · exact w_c4
  · exact w_c5
  · exact w_c6
set_option maxRecDepth 65536 in
theorem w_t1 : (words1.take 24).all (fun c => isCode c || c.before args0 about1) = true := by decide +kernel
set_option maxRecDepth 65536 in
theorem w_t2 : (words1.drop 24).all (fun c => isCode c || c.before args0 about1) = true := by decide +kernel
theorem w_tables : (allAtoms (Jvm.Cond.code x code maxLocals ret :: tables_1)).before args0 about1 = true := by
  rw [allAtoms_all]
  show words1.all (fun c => c.before args0 about1) = true
  refine all_split ?_ w_codes
  rw [← List.take_append_drop 24 words1, List.all_append, w_t1, w_t2]
  rfl
set_option maxRecDepth 65536 in
theorem w_case : (Jvm.Cond.and given_1 narrow_1).before args0 about1 = true := by decide +kernel
theorem w_applies : (headSpec (Jvm.Cond.code x code maxLocals ret :: tables_1) room_1).applies x e0.platform about1 = true :=
  (Spec.applies_iff w_frames).mpr ⟨w_running, w_runnable, w_alone, w_named, w_hears, w_ripe, w_room, w_tables⟩
theorem atStart : AtStart classFile x code maxLocals ret World_1 tables_1 room_1 Calls_1 rest_1 Pre_1 launch0 p0 e0 about1 theMethod args0 below0 :=
  ⟨lists_1, trivial, launch0.admits_env _ _ _, launch0.least_env, fairChoices_fair.cas, fairChoices_fair.clock, w_frames, w_args, w_heap, w_applies, trivial, trivial, w_case⟩
end start1
theorem witness_1 : WitnessClaimed_1 := ⟨start1.p0, start1.e0, start1.about1, start1.theMethod, start1.args0, start1.below0, start1.atStart⟩
end Jvm.Pilot.@@N@@
