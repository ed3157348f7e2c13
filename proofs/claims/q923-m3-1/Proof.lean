import JvmDerived
import JvmDerived.Pilot.@@N@@Statement
import JvmDerived.Pilot.@@N@@Code
set_option linter.unusedVariables false
set_option linter.unusedSimpArgs false
namespace Jvm.FP.Core
theorem own_scale1 {c : Nat} {q r e0 : Int} (hq : b64.qmin ≤ q) (hr : b64.qmin ≤ r) (h0 : e0 ≤ b64.qmin) (h0e : e0 ≤ q - r) :
    inUnits c (q - r) e0 * 2 ^ (r - b64.qmin).toNat = inUnits c q b64.qmin * one64 * 2 ^ (b64.qmin - e0).toNat := by
  have hm := qmin_neg good_b64
  rw [← pow_qmin64]
  unfold inUnits
  rw [Nat.mul_assoc, ← Nat.pow_add, Nat.mul_assoc, Nat.mul_assoc, ← Nat.pow_add, ← Nat.pow_add]
  congr 2
  omega
theorem own_scale2 {d zV : Nat} {r e0 : Int} : zV * 2 ^ (b64.qmin - e0).toNat * d * 2 ^ (r - b64.qmin).toNat = zV * inUnits d r b64.qmin * 2 ^ (b64.qmin - e0).toNat := by
  unfold inUnits
  ac_rfl
theorem own_rle {s t : Bool} {c d : Nat} {q r : Int} {V : Datum} (hx : fits b64 (.fin s c q)) (hy : fits b64 (.fin t d r)) (hd : 0 < d) (hV : fits b64 V) (hn : V ≠ .nan) {u : Bool}
    (h : inUnits c q b64.qmin * one64 ≤ zmag b64 V * inUnits d r b64.qmin) : zmag b64 (roundRatio b64 u c d (q - r)) ≤ zmag b64 V := by
  have h1 := hx.2.1
  have h2 := hy.2.1
  have h3 := hy.2.2.1
  have q1 : b64.qmax = 971 := by decide
  have q2 : b64.qmin = -1074 := by decide
  have h0 : b64.qmin - b64.qmax ≤ b64.qmin := by omega
  have h0e : b64.qmin - b64.qmax ≤ q - r := by omega
  refine zmag_roundRatio_le good_b64 hd hV hn h0 h0e ?_
  refine Nat.le_of_mul_le_mul_right ?_ (Nat.two_pow_pos (r - b64.qmin).toNat)
  rw [own_scale1 h1 h2 h0 h0e, own_scale2]
  exact Nat.mul_le_mul_right _ h
theorem own_rge {s t : Bool} {c d : Nat} {q r : Int} {V : Datum} (hx : fits b64 (.fin s c q)) (hy : fits b64 (.fin t d r)) (hd : 0 < d) (hV : fits b64 V) {u : Bool}
    (h : zmag b64 V * inUnits d r b64.qmin ≤ inUnits c q b64.qmin * one64) : zmag b64 V ≤ zmag b64 (roundRatio b64 u c d (q - r)) := by
  have h1 := hx.2.1
  have h2 := hy.2.1
  have h3 := hy.2.2.1
  have q1 : b64.qmax = 971 := by decide
  have q2 : b64.qmin = -1074 := by decide
  have h0 : b64.qmin - b64.qmax ≤ b64.qmin := by omega
  have h0e : b64.qmin - b64.qmax ≤ q - r := by omega
  refine zmag_roundRatio_ge good_b64 hd hV h0 h0e ?_
  refine Nat.le_of_mul_le_mul_right ?_ (Nat.two_pow_pos (r - b64.qmin).toNat)
  rw [own_scale1 h1 h2 h0 h0e, own_scale2]
  exact Nat.mul_le_mul_right _ h
theorem own_qle {x y : Datum} {V : Datum} (hx : fits b64 x) (hxf : ∃ s c q, x = .fin s c q) (hy : fits b64 y) (hyf : ∃ s c q, y = .fin s c q) (hp : 0 < zval b64 y) (hV : fits b64 V) (hn : V ≠ .nan)
    (h : zval b64 x * (one64 : Int) ≤ zval b64 V * zval b64 y) : zval b64 (quotient b64 x y) ≤ zval b64 V := by
  obtain ⟨s, c, q, rfl⟩ := hxf
  obtain ⟨t, d, r, rfl⟩ := hyf
  obtain rfl : t = false := by
    cases t
    · rfl
    · exfalso
      have : zval b64 (.fin true d r) = -((inUnits d r b64.qmin : Nat) : Int) := rfl
      omega
  have hY : zval b64 (.fin false d r) = ((inUnits d r b64.qmin : Nat) : Int) := rfl
  rw [hY] at hp h
  have hd : 0 < d := by
    refine Nat.pos_of_ne_zero fun z => ?_
    rw [z] at hp
    simp [inUnits] at hp
  have hq : quotient b64 (.fin s c q) (.fin false d r) = roundRatio b64 s c d (q - r) := by
    show (if d = 0 then _ else _) = _
    rw [if_neg (by omega), show (s != false) = s from by cases s <;> rfl]
  have hle := own_rle (u := s) hx hy hd hV hn
  have hge := own_rge (u := s) hx hy hd hV
  rw [hq]
  unfold zval at h ⊢
  rw [sgn_roundRatio]
  have hX : signed (sgn (.fin s c q)) (zmag b64 (.fin s c q)) = signed s (inUnits c q b64.qmin) := rfl
  rw [hX, ← signed_mul, ← signed_mul] at h
  have hpos : 0 < inUnits d r b64.qmin := by omega
  have hz : zmag b64 V * inUnits d r b64.qmin = 0 → zmag b64 V = 0 := by
    intro h
    rcases Nat.mul_eq_zero.mp h with h | h <;> omega
  generalize zmag b64 V * inUnits d r b64.qmin = vP at *
  generalize inUnits c q b64.qmin * one64 = xP at *
  generalize sgn V = t at *
  cases s <;> cases t <;> simp only [signed, if_true, Bool.false_eq_true, if_false] at h ⊢
  · have := hle (by omega); omega
  · have := hle (by omega); have := hz (by omega); omega
  · omega
  · have := hge (by omega); omega
theorem own_qge {x y : Datum} {V : Datum} (hx : fits b64 x) (hxf : ∃ s c q, x = .fin s c q) (hy : fits b64 y) (hyf : ∃ s c q, y = .fin s c q) (hp : 0 < zval b64 y) (hV : fits b64 V) (hn : V ≠ .nan)
    (h : zval b64 V * zval b64 y ≤ zval b64 x * (one64 : Int)) : zval b64 V ≤ zval b64 (quotient b64 x y) := by
  have h1 := own_qle (negate_fits hx) (by obtain ⟨s, c, q, rfl⟩ := hxf; exact ⟨_, _, _, rfl⟩) hy hyf hp (negate_fits hV) (negate_ne_nan hn) (by
    rw [zval_negate, zval_negate, Int.neg_mul, Int.neg_mul]; omega)
  rw [quotient_negate, zval_negate, zval_negate] at h1
  omega
/-- a quotient of two longs, the second positive: bounds -/
theorem own_dle {a b : Int64} {V : Datum} (hb : 0 < zval b64 (val64 (l2d b))) (hV : fits b64 V) (hn : V ≠ .nan) (h : zval b64 (val64 (l2d a)) * (one64 : Int) ≤ zval b64 V * zval b64 (val64 (l2d b))) :
    zval b64 (val64 (ddiv (l2d a) (l2d b))) ≤ zval b64 V := by
  rw [val64_ddiv]
  exact own_qle (val64_fits _) (l2d_fin a) (val64_fits _) (l2d_fin b) hb hV hn h
theorem own_dge {a b : Int64} {V : Datum} (hb : 0 < zval b64 (val64 (l2d b))) (hV : fits b64 V) (hn : V ≠ .nan) (h : zval b64 V * zval b64 (val64 (l2d b)) ≤ zval b64 (val64 (l2d a)) * (one64 : Int)) :
    zval b64 V ≤ zval b64 (val64 (ddiv (l2d a) (l2d b))) := by
  rw [val64_ddiv]
  exact own_qge (val64_fits _) (l2d_fin a) (val64_fits _) (l2d_fin b) hb hV hn h
theorem own_deq {a b : Int64} {V : Datum} (hb : 0 < zval b64 (val64 (l2d b))) (hV : fits b64 V) (hn : V ≠ .nan) (h : zval b64 V * zval b64 (val64 (l2d b)) = zval b64 (val64 (l2d a)) * (one64 : Int)) :
    zval b64 (val64 (ddiv (l2d a) (l2d b))) = zval b64 V :=
  Int.le_antisymm (own_dle hb hV hn (Int.le_of_eq h.symm)) (own_dge hb hV hn (Int.le_of_eq h))
theorem own_o : (0 : Int) < (one64 : Int) := by have := one64_pos; omega
theorem own_lz {a : Int64} (h : a.toInt.natAbs ≤ 2 ^ 53) : zval b64 (val64 (l2d a)) = a.toInt * (one64 : Int) := DInt_zval (l2d_int h)
theorem own_lpos {b : Int64} (h : 1 ≤ b.toInt) : (one64 : Int) ≤ zval b64 (val64 (l2d b)) := by
  have h1 := DInt_zval dint_one
  have h2 := l2d_zval_ge (n := b) (V := 4607182418800017408) (DInt_ne_nan dint_one) (by
    rw [h1]; exact Int.mul_le_mul_of_nonneg_right h (Int.le_of_lt own_o))
  rw [h1] at h2
  omega
theorem own_lneg {b : Int64} (h : b.toInt ≤ -1) : zval b64 (val64 (l2d b)) ≤ -(one64 : Int) := by
  have hm : DInt (-1) (l2d (-1)) := l2d_int (a := -1) (by decide)
  have h1 := DInt_zval hm
  have h2 := l2d_zval_le (n := b) (V := l2d (-1)) (DInt_ne_nan hm) (by
    rw [h1]; exact Int.mul_le_mul_of_nonneg_right h (Int.le_of_lt own_o))
  rw [h1] at h2
  omega
theorem own_ltop (b : Int64) : zval b64 (val64 (l2d b)) ≤ ((9223372036854775808 : Nat) : Int) * (one64 : Int) := by
  rw [← zval_d2l_hi]
  refine l2d_zval_le (by decide +kernel) ?_
  rw [zval_d2l_hi]
  have := b.toInt_lt
  exact Int.mul_le_mul_of_nonneg_right (by omega) (Int.le_of_lt own_o)
theorem own_dfin {a b : Int64} (hb : b ≠ 0) : DFin (ddiv (l2d a) (l2d b)) := by
  have h1 := l2d_mag a
  have h2 := l2d_big (int64_ne hb)
  have h3 := ddiv_mag (a := l2d a) (b := l2d b) (K := 1088) (L := 1023) (by omega) (by omega) (by omega) (by omega) (by omega)
  rw [fin_bits]
  omega
theorem own_bpos {b : Int64} (h : 1 ≤ b.toInt) : 0 < zval b64 (val64 (l2d b)) := Int.lt_of_lt_of_le own_o (own_lpos h)
theorem own_bne {b : Int64} (h : 1 ≤ b.toInt) : b ≠ 0 := fun q => by rw [q] at h; exact absurd h (by decide)
theorem own_abs2 {a b : Int} (ha : a.natAbs ≤ 2 ^ 26) (hb : b.natAbs ≤ 2 ^ 26) : (a * b).natAbs ≤ 2 ^ 52 := by
  rw [Int.natAbs_mul]
  exact Nat.le_trans (Nat.mul_le_mul ha hb) (by decide)
theorem own_mulI {a b : Int64} (h : (a.toInt * b.toInt).natAbs ≤ 2 ^ 52) : (a * b).toInt = a.toInt * b.toInt := by
  rw [Int64.toInt_mul]
  exact Int.bmod_eq_of_le (by omega) (by omega)
theorem own_addI {a b : Int64} (ha : a.toInt.natAbs ≤ 2 ^ 52) (hb : b.toInt.natAbs ≤ 2 ^ 52) : (a + b).toInt = a.toInt + b.toInt := by
  rw [Int64.toInt_add]
  exact Int.bmod_eq_of_le (by omega) (by omega)
/-- an exact multiple -/
theorem own_exact {c q : Int64} (h1 : 1 ≤ c.toInt) (h2 : c.toInt ≤ 67108864) (h3 : q.toInt.natAbs ≤ 67108864) : dcmp (ddiv (l2d (c * q)) (l2d c)) (l2d q) = some .eq := by
  have hm := own_abs2 (a := c.toInt) (b := q.toInt) (by omega) h3
  have e := own_mulI hm
  refine dcmp_eq.mpr ⟨(own_dfin (own_bne h1)).ne_nan, (l2d_fin q).ne_nan, ?_⟩
  refine own_deq (own_bpos h1) (val64_fits _) (l2d_fin q).ne_nan ?_
  rw [own_lz (a := q) (by omega), own_lz (a := c) (by omega), own_lz (a := c * q) (by rw [e]; omega), e]
  generalize (one64 : Int) = o
  ac_rfl
def own_U : Nat := 2 ^ 1059
theorem own_oU : (one64 : Int) = 32768 * (own_U : Int) := by
  have h : one64 = 32768 * own_U := by
    unfold one64 own_U
    rw [show (32768 : Nat) = 2 ^ 15 from rfl, ← Nat.pow_add]
  rw [h]
  exact Int.natCast_mul 32768 own_U
theorem own_VU (k : Int) (hk : k.natAbs < 2 ^ 53) : ∃ V : Datum, fits b64 V ∧ V ≠ .nan ∧ zval b64 V = k * (own_U : Int) := by
  obtain ⟨c', q', h1, h2⟩ := round_exact good_b64 (decide (k < 0)) (c := k.natAbs) (q := -15) (by exact hk) (by decide) (by decide)
  refine ⟨_, round_fits good_b64 (.fin (decide (k < 0)) k.natAbs (-15)), by rw [h1]; exact Datum.noConfusion, ?_⟩
  rw [h1]
  unfold zval zmag sgn
  simp only
  rw [h2]
  unfold inUnits
  rw [signed_mul, show ((-15 : Int) - b64.qmin).toNat = 1059 from by decide]
  have : signed (decide (k < 0)) k.natAbs = k := by
    unfold signed
    by_cases q : k < 0
    · simp [q]; omega
    · simp [q]; omega
  rw [this]
  rfl
theorem own_units {s : Bool} {c : Nat} {q m : Int} (h1 : b64.qmin ≤ m) (h2 : m ≤ q) : signed s (inUnits c q m) * ((2 ^ (m - b64.qmin).toNat : Nat) : Int) = signed s (inUnits c q b64.qmin) := by
  rw [← signed_mul]
  congr 1
  unfold inUnits
  rw [Nat.mul_assoc, ← Nat.pow_add]
  congr 2
  omega
theorem own_sum {s t : Bool} {c d : Nat} {q r : Int} {V : Datum} (hx : b64.qmin ≤ q) (hy : b64.qmin ≤ r) (hV : fits b64 V) (hn : V ≠ .nan) (h : zval b64 V = zval b64 (.fin s c q) + zval b64 (.fin t d r)) : zval b64 (round b64 (exactSum (.fin s c q) (.fin t d r))) = zval b64 V := by
  have hm : b64.qmin ≤ min q r := by omega
  have e : signed (sumSign s t (sumUnits s c q t d r (min q r))) (inUnits (sumUnits s c q t d r (min q r)).natAbs (min q r) b64.qmin) = zval b64 V := by
    unfold inUnits
    rw [signed_mul, signed_sumSign, h]
    unfold sumUnits
    rw [Int.add_mul, own_units hm (by omega), own_units hm (by omega)]
    rfl
  have z : ((2 ^ (b64.qmin - b64.qmin).toNat : Nat) : Int) = 1 := by simp
  show zval b64 (round b64 (.fin _ _ _)) = _
  refine Int.le_antisymm ?_ ?_
  · exact zval_round_le good_b64 hV hn (Int.le_refl _) hm (by rw [z, Int.mul_one, e]; exact Int.le_refl _)
  · exact zval_round_ge good_b64 hV hn (Int.le_refl _) hm (by rw [z, Int.mul_one, e]; exact Int.le_refl _)
theorem own_dsum {x y : UInt64} {V : Datum} (hx : DFin x) (hy : DFin y) (hV : fits b64 V) (hn : V ≠ .nan) (h : zval b64 V = zval b64 (val64 x) + zval b64 (val64 y)) : val64 (dadd x y) ≠ .nan ∧ zval b64 (val64 (dadd x y)) = zval b64 V := by
  obtain ⟨s, c, q, e1⟩ := hx
  obtain ⟨t, d, r, e2⟩ := hy
  have f1 := val64_fits x
  have f2 := val64_fits y
  rw [e1] at f1 h
  rw [e2] at f2 h
  rw [val64_dadd, e1, e2]
  refine ⟨?_, own_sum f1.2.1 f2.2.1 hV hn h⟩
  intro z
  exact absurd (round_nan.mp z) Datum.noConfusion
/-- n / p for p = 2^j, j at most 15 -/
theorem own_div2 {n p : Int64} {E : Int} (hp : 1 ≤ p.toInt) (hE : p.toInt * E = 32768) (hE1 : 1 ≤ E) (hn : n.toInt.natAbs ≤ 2 ^ 53) (hk : (n.toInt * E).natAbs < 2 ^ 53) : zval b64 (val64 (ddiv (l2d n) (l2d p))) = n.toInt * E * (own_U : Int) := by
  obtain ⟨V, hV, hnn, hz⟩ := own_VU (n.toInt * E) hk
  have hp2 : p.toInt ≤ 32768 := by
    have h1 : p.toInt * 1 ≤ p.toInt * E := Int.mul_le_mul_of_nonneg_left hE1 (by omega)
    omega
  rw [← hz]
  refine own_deq (own_bpos hp) hV hnn ?_
  rw [hz, own_lz hn, own_lz (a := p) (by omega)]
  rw [show n.toInt * E * (own_U : Int) * (p.toInt * (one64 : Int)) = n.toInt * ((p.toInt * E) * (own_U : Int)) * (one64 : Int) from by generalize (one64 : Int) = o; generalize (own_U : Int) = u; ac_rfl, hE, ← own_oU]
theorem own_frac {q p r : Int64} {E : Int} (hp : 1 ≤ p.toInt) (hE : p.toInt * E = 32768) (hE1 : 1 ≤ E) (hq : q.toInt.natAbs ≤ 67108864) (hr0 : 0 ≤ r.toInt) (hr1 : r.toInt < p.toInt) : val64 (dadd (l2d q) (ddiv (l2d r) (l2d p))) ≠ .nan ∧ dcmp (ddiv (l2d (q * p + r)) (l2d p)) (dadd (l2d q) (ddiv (l2d r) (l2d p))) = some .eq := by
  have hp2 : p.toInt ≤ 32768 := by
    have h1 : p.toInt * 1 ≤ p.toInt * E := Int.mul_le_mul_of_nonneg_left hE1 (by omega)
    omega
  have hE2 : E ≤ 32768 := by
    have h1 : 1 * E ≤ p.toInt * E := Int.mul_le_mul_of_nonneg_right hp (by omega)
    omega
  have hm : (q.toInt * p.toInt).natAbs ≤ 2199023255552 := by
    rw [Int.natAbs_mul]
    exact Nat.mul_le_mul hq (show p.toInt.natAbs ≤ 32768 by omega)
  have e1 := own_mulI (a := q) (b := p) (by omega)
  have e2 := own_addI (a := q * p) (b := r) (by rw [e1]; omega) (by omega)
  rw [e1] at e2
  have hqE : (q.toInt * 32768).natAbs ≤ 2199023255552 := by omega
  have hrE0 : 0 ≤ r.toInt * E := Int.mul_nonneg hr0 (by omega)
  have hrE1 : r.toInt * E ≤ 32768 := by
    rw [← hE]
    exact Int.mul_le_mul_of_nonneg_right (by omega) (by omega)
  have hs : (q.toInt * p.toInt + r.toInt) * E = q.toInt * 32768 + r.toInt * E := by
    rw [Int.add_mul, Int.mul_assoc, hE]
  have z1 := own_div2 (n := q * p + r) hp hE hE1 (by rw [e2]; omega) (by rw [e2, hs]; omega)
  have z2 := own_div2 (n := r) hp hE hE1 (by omega) (by omega)
  rw [e2, hs] at z1
  obtain ⟨V, hV, hnn, hz⟩ := own_VU (q.toInt * 32768 + r.toInt * E) (by omega)
  have hd := own_dsum (V := V) (l2d_fin q) (own_dfin (a := r) (own_bne hp)) hV hnn (by
    rw [hz, z2, own_lz (a := q) (by omega), own_oU, Int.add_mul, Int.mul_assoc])
  refine ⟨hd.1, dcmp_eq.mpr ⟨(own_dfin (own_bne hp)).ne_nan, hd.1, ?_⟩⟩
  rw [hd.2, hz, z1]
/-- the general bounds -/
theorem own_top {t b : Int64} (hb : 1 ≤ b.toInt) (ht : 1 ≤ t.toInt) : dcmp 0 (ddiv (l2d t) (l2d b)) = some .lt ∧ (dcmp (ddiv (l2d t) (l2d b)) (l2d t) = some .lt ∨ dcmp (ddiv (l2d t) (l2d b)) (l2d t) = some .eq) := by
  have hn := (own_dfin (a := t) (own_bne hb)).ne_nan
  have h1 := own_lpos ht
  have h2 := own_lpos hb
  have h3 := own_ltop b
  have v1 : zval b64 (val64 1) = 1 := by decide +kernel
  have h4 := own_dge (a := t) (b := b) (V := val64 1) (own_bpos hb) (val64_fits _) (by decide +kernel) (by
    rw [v1, Int.one_mul]
    refine Int.le_trans h3 ?_
    refine Int.mul_le_mul_of_nonneg_right (Int.le_trans ?_ h1) (Int.le_of_lt own_o)
    unfold one64
    exact Int.ofNat_le.mpr (Nat.le_trans (by decide : 9223372036854775808 ≤ 2 ^ 63) (Nat.pow_le_pow_right (by decide) (by decide : 63 ≤ 1074))))
  have h5 := own_dle (a := t) (b := b) (V := val64 (l2d t)) (own_bpos hb) (val64_fits _) (l2d_fin t).ne_nan (Int.mul_le_mul_of_nonneg_left h2 (by have := own_o; omega))
  refine ⟨dcmp_lt.mpr ⟨by decide +kernel, hn, ?_⟩, dcmp_le.mpr ⟨hn, (l2d_fin t).ne_nan, h5⟩⟩
  rw [zval64_zero]
  omega
theorem own_low {t b : Int64} (hb : 1 ≤ b.toInt) (ht : t.toInt ≤ -1) : dcmp (ddiv (l2d t) (l2d b)) 0 = some .lt ∧ (dcmp (l2d t) (ddiv (l2d t) (l2d b)) = some .lt ∨ dcmp (l2d t) (ddiv (l2d t) (l2d b)) = some .eq) := by
  have hn := (own_dfin (a := t) (own_bne hb)).ne_nan
  have h1 := own_lneg ht
  have h2 := own_lpos hb
  have h3 := own_ltop b
  have v1 : zval b64 (val64 9223372036854775809) = -1 := by decide +kernel
  have h4 := own_dle (a := t) (b := b) (V := val64 9223372036854775809) (own_bpos hb) (val64_fits _) (by decide +kernel) (by
    rw [v1]
    have a1 : ((9223372036854775808 : Nat) : Int) ≤ (one64 : Int) := by
      unfold one64
      exact Int.ofNat_le.mpr (Nat.le_trans (by decide : 9223372036854775808 ≤ 2 ^ 63) (Nat.pow_le_pow_right (by decide) (by decide : 63 ≤ 1074)))
    have a2 := Int.mul_le_mul_of_nonneg_right a1 (Int.le_of_lt own_o)
    have a3 := Int.mul_le_mul_of_nonneg_right h1 (Int.le_of_lt own_o)
    rw [Int.neg_mul] at a3
    omega)
  have h5 := own_dge (a := t) (b := b) (V := val64 (l2d t)) (own_bpos hb) (val64_fits _) (l2d_fin t).ne_nan (by
    have a0 : 0 ≤ -(zval b64 (val64 (l2d t))) := by have := own_o; omega
    have a1 := Int.mul_le_mul_of_nonneg_left h2 a0
    rw [Int.neg_mul, Int.neg_mul] at a1
    omega)
  refine ⟨dcmp_lt.mpr ⟨hn, by decide +kernel, ?_⟩, dcmp_le.mpr ⟨(l2d_fin t).ne_nan, hn, h5⟩⟩
  rw [zval64_zero]
  omega
theorem own_zer {t b : Int64} (hb : 1 ≤ b.toInt) (ht : t = 0) : dcmp (ddiv (l2d t) (l2d b)) 0 = some .eq := by
  have hn := (own_dfin (a := t) (own_bne hb)).ne_nan
  refine dcmp_eq.mpr ⟨hn, by decide +kernel, ?_⟩
  refine own_deq (own_bpos hb) (val64_fits _) (by decide +kernel) ?_
  rw [zval64_zero, ht, own_lz (a := 0) (by decide), show (0 : Int64).toInt = 0 from by decide]
  simp
theorem own_un {t : Int64} : dcmp (ddiv (l2d t) (l2d 1)) (l2d t) = some .eq := by
  have hb : 1 ≤ (1 : Int64).toInt := by decide
  have hn := (own_dfin (a := t) (own_bne hb)).ne_nan
  refine dcmp_eq.mpr ⟨hn, (l2d_fin t).ne_nan, ?_⟩
  refine own_deq (own_bpos hb) (val64_fits _) (l2d_fin t).ne_nan ?_
  rw [own_lz (a := 1) (by decide), show (1 : Int64).toInt = 1 from by decide, Int.one_mul]
end Jvm.FP.Core
namespace Jvm.Pilot.@@N@@
open Jvm Jvm.ClassFile Sem Op Lib Jvm.Free Jvm.Stand Jvm.LawKit Jvm.RoadKit Bundle Jvm.Pilot.@@N@@.Jvm.D
/-! own layer: the walk goes forward; own_G S: from S the body ends as F says -/
def own_G (tb : Tables) (e : Env) (below : List Frame) (F : Outcome → State → Prop) (S : State) : Prop :=
  ∃ s₂ o, Steps tb e below S s₂ ∧ s₂.status = .running ∧ Ended s₂ below o ∧ F o s₂
theorem own_go {tb : Tables} {e : Env} {below : List Frame} {F : Outcome → State → Prop} {A B : State} (st : ∀ t, Steps tb e below B t → Steps tb e below A t) (h : own_G tb e below F B) : own_G tb e below F A := by
  obtain ⟨t, o, h1, h2⟩ := h
  exact ⟨t, o, st t h1, h2⟩
theorem own_tr {tb : Tables} {e : Env} {below : List Frame} {F : Outcome → State → Prop} {A B : State} (st : Steps tb e below A B) (h : own_G tb e below F B) : own_G tb e below F A := own_go (fun _ k => st.trans k) h
theorem own_b {n k : Nat} (h : Nat.ble n k = true) : n ≤ k := Nat.le_of_ble_eq_true h
def own_yes {α : Type} [LT α] : ClassFile.Cond → α → α → Prop
  | .eq, x, y => x = y
  | .ne, x, y => ¬ x = y
  | .lt, x, y => x < y
  | .ge, x, y => ¬ x < y
  | .gt, x, y => y < x
  | .le, x, y => ¬ y < x
def own_no {α : Type} [LT α] : ClassFile.Cond → α → α → Prop
  | .eq, x, y => ¬ x = y
  | .ne, x, y => x = y
  | .lt, x, y => ¬ x < y
  | .ge, x, y => x < y
  | .gt, x, y => ¬ y < x
  | .le, x, y => y < x
theorem own_hy {cd : ClassFile.Cond} {x y : Int32} (h : own_yes cd x y) : if_icmp.holds cd x y = true := by
  cases cd
  · exact (teq h).1
  · exact (feq h).2
  · exact (tlt h).1
  · exact (flt h).2.1
  · exact (tlt h).2.2.1
  · exact (flt h).2.2.2
theorem own_hn {cd : ClassFile.Cond} {x y : Int32} (h : own_no cd x y) : if_icmp.holds cd x y = false := by
  cases cd
  · exact (feq h).1
  · exact (teq h).2
  · exact (flt h).1
  · exact (tlt h).2.1
  · exact (flt h).2.2.1
  · exact (tlt h).2.2.2
theorem own_yn {cd : ClassFile.Cond} {x y : Int32} : own_yes cd x y ∨ own_no cd x y := by
  cases cd
  · exact Classical.em _
  · exact (Classical.em _).symm
  · exact Classical.em _
  · exact (Classical.em _).symm
  · exact Classical.em _
  · exact (Classical.em _).symm
theorem own_ynL {cd : ClassFile.Cond} {x y : Int64} : own_yes cd x y ∨ own_no cd x y := by
  cases cd
  · exact Classical.em _
  · exact (Classical.em _).symm
  · exact Classical.em _
  · exact (Classical.em _).symm
  · exact Classical.em _
  · exact (Classical.em _).symm
theorem own_hyL {cd : ClassFile.Cond} {x y : Int64} (h : own_yes cd x y) : ifCond.holds cd (lcmpW x y) = true := by
  rw [if0]
  refine own_hy ?_
  cases cd
  · exact (lw_eq x y).mpr h
  · exact fun q => h ((lw_eq x y).mp q)
  · exact (lw_lt x y).mpr h
  · exact fun q => h ((lw_lt x y).mp q)
  · exact (lw_gt x y).mpr h
  · exact fun q => h ((lw_gt x y).mp q)
theorem own_hnL {cd : ClassFile.Cond} {x y : Int64} (h : own_no cd x y) : ifCond.holds cd (lcmpW x y) = false := by
  rw [if0]
  refine own_hn ?_
  cases cd
  · exact fun q => h ((lw_eq x y).mp q)
  · exact (lw_eq x y).mpr h
  · exact fun q => h ((lw_lt x y).mp q)
  · exact (lw_lt x y).mpr h
  · exact fun q => h ((lw_gt x y).mp q)
  · exact (lw_gt x y).mpr h
section Own
variable {p : Program} {l : Launch} {e : Env} {R : Room} {s : State} {m : MethodId} {args : Array Value} {below : List Frame} {meth : Method} {c : Code} {T : State} {locs : List Loc} {cells slots : Nat} {F : Outcome → State → Prop}
theorem own_abs {n0 : Nat} (X : Stand p l e R s m args below meth c T locs cells slots) (N : Fr n0 locs) : ∃ L, Stand p l e R s m args below meth c T L cells slots ∧ Fr n0 L := ⟨locs, X, N⟩
theorem own_absC {n0 K K' : Nat} {L Lc : List Loc} {k n : Nat} (X : Stand p l e R s m args below meth c T L k n) (hl : L = locs ++ Lc) (hk : k = K) (hn : n = K') (N : Fr n0 locs) (N' : Fr n0 Lc) : ∃ L, Stand p l e R s m args below meth c T L K K' ∧ Fr n0 L := by
  subst hk hn
  exact ⟨L, X, by rw [hl]; exact Fr.app N N'⟩
theorem own_icmpY (X : Stand p l e R s m args below meth c T locs cells slots) (hx : p.tables.exec = Jvm.exec) {cd : ClassFile.Cond} {x y : Int32} {o : Int} {pc pc' : Nat} {Ls : Array Slot} {rest : List Value} (hd : decode c.code pc = .ok (.if_icmp cd o, 3)) (ho : 0 ≤ (pc : Int) + o) (hp : ((pc : Int) + o).toNat = pc')
    (hc : own_yes cd x y) (h1 : own_G p.tables e below F (T.setTop (mkF m pc' Ls rest))) : own_G p.tables e below F (T.setTop (mkF m pc Ls (.int y :: .int x :: rest))) :=
  own_go (fun _ k => XS.icmpYes X.here hx rfl (pc0 := pc) (pc' := pc') rfl hd rfl (own_hy hc) ho hp k) h1
theorem own_icmpN (X : Stand p l e R s m args below meth c T locs cells slots) (hx : p.tables.exec = Jvm.exec) {cd : ClassFile.Cond} {x y : Int32} {o : Int} {pc pn : Nat} {Ls : Array Slot} {rest : List Value} (hd : decode c.code pc = .ok (.if_icmp cd o, 3)) (hq : pc + 3 = pn)
    (hc : own_no cd x y) (h1 : own_G p.tables e below F (T.setTop (mkF m pn Ls rest))) : own_G p.tables e below F (T.setTop (mkF m pc Ls (.int y :: .int x :: rest))) := by
  subst hq
  exact own_go (fun _ k => XS.icmpNo X.here hx rfl hd rfl (own_hn hc) k) h1
theorem own_icmp (X : Stand p l e R s m args below meth c T locs cells slots) (hx : p.tables.exec = Jvm.exec) {cd : ClassFile.Cond} {x y : Int32} {o : Int} {pc pc' pn : Nat} {Ls : Array Slot} {rest : List Value} (hd : decode c.code pc = .ok (.if_icmp cd o, 3)) (ho : 0 ≤ (pc : Int) + o) (hp : ((pc : Int) + o).toNat = pc') (hq : pc + 3 = pn)
    (h1 : own_yes cd x y → own_G p.tables e below F (T.setTop (mkF m pc' Ls rest))) (h2 : own_no cd x y → own_G p.tables e below F (T.setTop (mkF m pn Ls rest))) : own_G p.tables e below F (T.setTop (mkF m pc Ls (.int y :: .int x :: rest))) :=
  own_yn.elim (fun q => own_icmpY X hx hd ho hp q (h1 q)) (fun q => own_icmpN X hx hd hq q (h2 q))
theorem own_ifY (X : Stand p l e R s m args below meth c T locs cells slots) (hx : p.tables.exec = Jvm.exec) {cd : ClassFile.Cond} {x : Int32} {o : Int} {pc pc' : Nat} {Ls : Array Slot} {rest : List Value} (hd : decode c.code pc = .ok (.ifCond cd o, 3)) (ho : 0 ≤ (pc : Int) + o) (hp : ((pc : Int) + o).toNat = pc')
    (hc : own_yes cd x 0) (h1 : own_G p.tables e below F (T.setTop (mkF m pc' Ls rest))) : own_G p.tables e below F (T.setTop (mkF m pc Ls (.int x :: rest))) :=
  own_go (fun _ k => XS.ifYes X.here hx rfl (pc0 := pc) (pc' := pc') rfl hd rfl ((if0 cd x).trans (own_hy hc)) ho hp k) h1
theorem own_ifN (X : Stand p l e R s m args below meth c T locs cells slots) (hx : p.tables.exec = Jvm.exec) {cd : ClassFile.Cond} {x : Int32} {o : Int} {pc pn : Nat} {Ls : Array Slot} {rest : List Value} (hd : decode c.code pc = .ok (.ifCond cd o, 3)) (hq : pc + 3 = pn)
    (hc : own_no cd x 0) (h1 : own_G p.tables e below F (T.setTop (mkF m pn Ls rest))) : own_G p.tables e below F (T.setTop (mkF m pc Ls (.int x :: rest))) := by
  subst hq
  exact own_go (fun _ k => XS.ifNo X.here hx rfl hd rfl ((if0 cd x).trans (own_hn hc)) k) h1
theorem own_if (X : Stand p l e R s m args below meth c T locs cells slots) (hx : p.tables.exec = Jvm.exec) {cd : ClassFile.Cond} {x : Int32} {o : Int} {pc pc' pn : Nat} {Ls : Array Slot} {rest : List Value} (hd : decode c.code pc = .ok (.ifCond cd o, 3)) (ho : 0 ≤ (pc : Int) + o) (hp : ((pc : Int) + o).toNat = pc') (hq : pc + 3 = pn)
    (h1 : own_yes cd x 0 → own_G p.tables e below F (T.setTop (mkF m pc' Ls rest))) (h2 : own_no cd x 0 → own_G p.tables e below F (T.setTop (mkF m pn Ls rest))) : own_G p.tables e below F (T.setTop (mkF m pc Ls (.int x :: rest))) :=
  own_yn.elim (fun q => own_ifY X hx hd ho hp q (h1 q)) (fun q => own_ifN X hx hd hq q (h2 q))
theorem own_lifY (X : Stand p l e R s m args below meth c T locs cells slots) (hx : p.tables.exec = Jvm.exec) {cd : ClassFile.Cond} {x y : Int64} {o : Int} {pc pc' : Nat} {Ls : Array Slot} {rest : List Value} (hd : decode c.code pc = .ok (.ifCond cd o, 3)) (ho : 0 ≤ (pc : Int) + o) (hp : ((pc : Int) + o).toNat = pc')
    (hc : own_yes cd x y) (h1 : own_G p.tables e below F (T.setTop (mkF m pc' Ls rest))) : own_G p.tables e below F (T.setTop (mkF m pc Ls (.int (lcmpW x y) :: rest))) :=
  own_go (fun _ k => XS.ifYes X.here hx rfl (pc0 := pc) (pc' := pc') rfl hd rfl (own_hyL hc) ho hp k) h1
theorem own_lifN (X : Stand p l e R s m args below meth c T locs cells slots) (hx : p.tables.exec = Jvm.exec) {cd : ClassFile.Cond} {x y : Int64} {o : Int} {pc pn : Nat} {Ls : Array Slot} {rest : List Value} (hd : decode c.code pc = .ok (.ifCond cd o, 3)) (hq : pc + 3 = pn)
    (hc : own_no cd x y) (h1 : own_G p.tables e below F (T.setTop (mkF m pn Ls rest))) : own_G p.tables e below F (T.setTop (mkF m pc Ls (.int (lcmpW x y) :: rest))) := by
  subst hq
  exact own_go (fun _ k => XS.ifNo X.here hx rfl hd rfl (own_hnL hc) k) h1
theorem own_lif (X : Stand p l e R s m args below meth c T locs cells slots) (hx : p.tables.exec = Jvm.exec) {cd : ClassFile.Cond} {x y : Int64} {o : Int} {pc pc' pn : Nat} {Ls : Array Slot} {rest : List Value} (hd : decode c.code pc = .ok (.ifCond cd o, 3)) (ho : 0 ≤ (pc : Int) + o) (hp : ((pc : Int) + o).toNat = pc') (hq : pc + 3 = pn)
    (h1 : own_yes cd x y → own_G p.tables e below F (T.setTop (mkF m pc' Ls rest))) (h2 : own_no cd x y → own_G p.tables e below F (T.setTop (mkF m pn Ls rest))) : own_G p.tables e below F (T.setTop (mkF m pc Ls (.int (lcmpW x y) :: rest))) :=
  own_ynL.elim (fun q => own_lifY X hx hd ho hp q (h1 q)) (fun q => own_lifN X hx hd hq q (h2 q))
theorem own_ret (X : Stand p l e R s m args below meth c T locs cells slots) (hx : p.tables.exec = Jvm.exec) (hlk : meth.locks = false) {K N pc : Nat} {Ls : Array Slot} {w : Value} {t : FieldType} {i : Instr} {rest : List Value} {Q : Option Value → Heap → List Loc → Prop} (hret : meth.sig.returnType = some t) (hn : narrow t w = w)
    (hi : (i = .ireturn ∧ (t = .int ∨ t = .boolean ∨ t = .byte ∨ t = .char ∨ t = .short) ∧ ∃ z, w = .int z) ∨ (i = .lreturn ∧ t = .long ∧ ∃ z, w = .long z) ∨ (i = .dreturn ∧ t = .double ∧ ∃ z, w = .double z) ∨ (i = .freturn ∧ t = .float ∧ ∃ z, w = .float z) ∨ (i = .areturn ∧ t.isReference = true ∧ w.isRef = true))
    (hd : decode c.code pc = .ok (i, 1)) (hK : cells ≤ K) (hN : slots ≤ N) (hQ : Q (some w) T.heap locs) :
    own_G p.tables e below (fun o U' => ∃ v L, o = .returned v ∧ Q v U'.heap L ∧ FrameEnd s o U' L K N) (T.setTop (mkF m pc Ls (w :: rest))) := by
  obtain ⟨fs, hr, hrun, hended, hW, hsame⟩ := X.leave (v := some w) (fun h => by rw [hret] at h; cases h) hlk
  exact ⟨_, _, retOut X hx hret hn hi hd hr, hrun, hended, _, _, rfl, hQ, ⟨_, rfl⟩, hW, hsame.mono hK hN⟩
theorem own_retI (X : Stand p l e R s m args below meth c T locs cells slots) (hx : p.tables.exec = Jvm.exec) (hlk : meth.locks = false) {K N pc : Nat} {Ls : Array Slot} {z : Int32} {rest : List Value} {Q : Option Value → Heap → List Loc → Prop} (hret : meth.sig.returnType = some .int)
    (hd : decode c.code pc = .ok (.ireturn, 1)) (hK : cells ≤ K) (hN : slots ≤ N) (hQ : Q (some (.int z)) T.heap locs) :
    own_G p.tables e below (fun o U' => ∃ v L, o = .returned v ∧ Q v U'.heap L ∧ FrameEnd s o U' L K N) (T.setTop (mkF m pc Ls (.int z :: rest))) :=
  own_ret X hx hlk hret rfl (Or.inl ⟨rfl, Or.inl rfl, z, rfl⟩) hd hK hN hQ
theorem own_retZ (X : Stand p l e R s m args below meth c T locs cells slots) (hx : p.tables.exec = Jvm.exec) (hlk : meth.locks = false) {K N pc : Nat} {Ls : Array Slot} {z : Int32} {rest : List Value} {Q : Option Value → Heap → List Loc → Prop} (hret : meth.sig.returnType = some .boolean)
    (hd : decode c.code pc = .ok (.ireturn, 1)) (hz : z = 0 ∨ z = 1) (hK : cells ≤ K) (hN : slots ≤ N) (hQ : Q (some (.int z)) T.heap locs) :
    own_G p.tables e below (fun o U' => ∃ v L, o = .returned v ∧ Q v U'.heap L ∧ FrameEnd s o U' L K N) (T.setTop (mkF m pc Ls (.int z :: rest))) :=
  own_ret X hx hlk hret (by rcases hz with rfl | rfl <;> rfl) (Or.inl ⟨rfl, Or.inr (Or.inl rfl), z, rfl⟩) hd hK hN hQ
theorem own_retL (X : Stand p l e R s m args below meth c T locs cells slots) (hx : p.tables.exec = Jvm.exec) (hlk : meth.locks = false) {K N pc : Nat} {Ls : Array Slot} {z : Int64} {rest : List Value} {Q : Option Value → Heap → List Loc → Prop} (hret : meth.sig.returnType = some .long)
    (hd : decode c.code pc = .ok (.lreturn, 1)) (hK : cells ≤ K) (hN : slots ≤ N) (hQ : Q (some (.long z)) T.heap locs) :
    own_G p.tables e below (fun o U' => ∃ v L, o = .returned v ∧ Q v U'.heap L ∧ FrameEnd s o U' L K N) (T.setTop (mkF m pc Ls (.long z :: rest))) :=
  own_ret X hx hlk hret rfl (Or.inr (Or.inl ⟨rfl, rfl, z, rfl⟩)) hd hK hN hQ
theorem own_retA (X : Stand p l e R s m args below meth c T locs cells slots) (hx : p.tables.exec = Jvm.exec) (hlk : meth.locks = false) {K N pc : Nat} {Ls : Array Slot} {w : Value} {t : FieldType} {rest : List Value} {Q : Option Value → Heap → List Loc → Prop} (hret : meth.sig.returnType = some t) (ht : t.isReference = true) (hw : w.isRef = true)
    (hd : decode c.code pc = .ok (.areturn, 1)) (hK : cells ≤ K) (hN : slots ≤ N) (hQ : Q (some w) T.heap locs) :
    own_G p.tables e below (fun o U' => ∃ v L, o = .returned v ∧ Q v U'.heap L ∧ FrameEnd s o U' L K N) (T.setTop (mkF m pc Ls (w :: rest))) :=
  own_ret X hx hlk hret (by cases t <;> first | (cases ht; done) | (rcases ref_cases hw with rfl | ⟨z, rfl⟩ <;> rfl)) (Or.inr (Or.inr (Or.inr (Or.inr ⟨rfl, ht, hw⟩)))) hd hK hN hQ
theorem own_retV (X : Stand p l e R s m args below meth c T locs cells slots) (hx : p.tables.exec = Jvm.exec) (hlk : meth.locks = false) {K N pc : Nat} {Ls : Array Slot} {Q : Option Value → Heap → List Loc → Prop} (hret : meth.sig.returnType = none)
    (hd : decode c.code pc = .ok (.return_, 1)) (hK : cells ≤ K) (hN : slots ≤ N) (hQ : Q none T.heap locs) :
    own_G p.tables e below (fun o U' => ∃ v L, o = .returned v ∧ Q v U'.heap L ∧ FrameEnd s o U' L K N) (T.setTop (mkF m pc Ls [])) := by
  obtain ⟨fs, hr, hrun, hended, hW, hsame⟩ := X.leave (v := none) (fun _ => rfl) hlk
  exact ⟨_, _, X.returnOut hx hret hd hr, hrun, hended, _, _, rfl, hQ, ⟨_, rfl⟩, hW, hsame.mono hK hN⟩
theorem own_acmpVE (X : Stand p l e R s m args below meth c T locs cells slots) (hx : p.tables.exec = Jvm.exec) {cd : ACond} {x y : Value} (h1 : x.isRef = true) (h2 : y.isRef = true) {o : Int} {pc pc' : Nat} {Ls : Array Slot} {rest : List Value} (hd : decode c.code pc = .ok (.if_acmp cd o, 3)) (ho : 0 ≤ (pc : Int) + o) (hp : pc' = if acV cd true = true then ((pc : Int) + o).toNat else pc + 3)
    (hc : x = y) (k : own_G p.tables e below F (T.setTop (mkF m pc' Ls rest))) : own_G p.tables e below F (T.setTop (mkF m pc Ls (y :: x :: rest))) :=
  own_go (fun _ q => RoadKit.acmp X hx rfl h1 h2 (pc0 := pc) (pc' := pc') (same := true) rfl hd rfl (by simp [hc]) ho hp q) k
theorem own_acmpVD (X : Stand p l e R s m args below meth c T locs cells slots) (hx : p.tables.exec = Jvm.exec) {cd : ACond} {x y : Value} (h1 : x.isRef = true) (h2 : y.isRef = true) {o : Int} {pc pc' : Nat} {Ls : Array Slot} {rest : List Value} (hd : decode c.code pc = .ok (.if_acmp cd o, 3)) (ho : 0 ≤ (pc : Int) + o) (hp : pc' = if acV cd false = true then ((pc : Int) + o).toNat else pc + 3)
    (hc : ¬ x = y) (k : own_G p.tables e below F (T.setTop (mkF m pc' Ls rest))) : own_G p.tables e below F (T.setTop (mkF m pc Ls (y :: x :: rest))) :=
  own_go (fun _ q => RoadKit.acmp X hx rfl h1 h2 (pc0 := pc) (pc' := pc') (same := false) rfl hd rfl (by simp [hc]) ho hp q) k
theorem own_acmpAE (X : Stand p l e R s m args below meth c T locs cells slots) (hx : p.tables.exec = Jvm.exec) {cd : ACond} {x y : Addr} {o : Int} {pc pc' : Nat} {Ls : Array Slot} {rest : List Value} (hd : decode c.code pc = .ok (.if_acmp cd o, 3)) (ho : 0 ≤ (pc : Int) + o) (hp : pc' = if acV cd true = true then ((pc : Int) + o).toNat else pc + 3)
    (hc : x = y) (k : own_G p.tables e below F (T.setTop (mkF m pc' Ls rest))) : own_G p.tables e below F (T.setTop (mkF m pc Ls (.ref y :: .ref x :: rest))) :=
  own_acmpVE X hx rfl rfl hd ho hp (by rw [hc]) k
theorem own_acmpAD (X : Stand p l e R s m args below meth c T locs cells slots) (hx : p.tables.exec = Jvm.exec) {cd : ACond} {x y : Addr} {o : Int} {pc pc' : Nat} {Ls : Array Slot} {rest : List Value} (hd : decode c.code pc = .ok (.if_acmp cd o, 3)) (ho : 0 ≤ (pc : Int) + o) (hp : pc' = if acV cd false = true then ((pc : Int) + o).toNat else pc + 3)
    (hc : ¬ x = y) (k : own_G p.tables e below F (T.setTop (mkF m pc' Ls rest))) : own_G p.tables e below F (T.setTop (mkF m pc Ls (.ref y :: .ref x :: rest))) :=
  own_acmpVD X hx rfl rfl hd ho hp (fun q => hc (by cases q; rfl)) k
end Own
theorem own_cat1 {v : Value} (h : v.isRef = true) : v.category = 1 := by cases v <;> first | (cases h; done) | rfl
theorem own_sta_keep {Z : State} {h h' : Heap} {C n d : String} {v : Value} {ws : List Addr} (F : Sta Z h C n d v) (K : Keep h h' ws) (q : ∀ x ∈ ws, ∀ c : Cell, h[x]? = some c → c.vm.isStatics = false) : Sta Z h' C n d v := by
  obtain ⟨cf, i, k, f, st, cell, h1, h2, h3, h4, h5, h6, h7⟩ := F
  exact ⟨cf, i, k, f, st, cell, h1, h2, h3, h4, K.2.1 _ _ h5 (fun z => by rw [q _ z _ h5] at h6; cases h6), h6, h7⟩
theorem own_eqint {t : Term} {n : Int32} {args : Array Value} {s : State} (h : (Jvm.Cond.eq t (Term.int n)).value args s none s [] = some true) : t.eval args s none [] s = some (.int n) := by
  have hb : (Term.int n).eval args s none [] s = some (.int n) := Term.int_eval n
  simp only [Jvm.Cond.value, hb] at h
  cases ht : t.eval args s none [] s with
  | none => simp [ht] at h
  | some v => cases v <;> simp [ht] at h ⊢; exact h
theorem own_iconst {tb : Tables} [Ours tb] {e : Env} {below : List Frame} {T target : State} {m : MethodId} {c : Code} {g : JFrame} {v : Int32} (h : At T m c below) (hx : tb.exec = Jvm.exec) (hg : g.method = m) {i : Int} (hd : decode c.code g.pc = .ok (.iconst i, 1)) (hv : Int32.ofInt i = v)
    (hr : Steps tb e below (T.setTop { g with pc := g.pc + 1, stack := .int v :: g.stack }) target) : Steps tb e below (T.setTop g) target := by
  subst hv
  exact XS.iconst h hx hg hd hr
theorem own_bipush {tb : Tables} [Ours tb] {e : Env} {below : List Frame} {T target : State} {m : MethodId} {c : Code} {g : JFrame} {v : Int32} (h : At T m c below) (hx : tb.exec = Jvm.exec) (hg : g.method = m) {i : Int} (hd : decode c.code g.pc = .ok (.bipush i, 2)) (hv : (Int8.ofInt i).toInt32 = v)
    (hr : Steps tb e below (T.setTop { g with pc := g.pc + 2, stack := .int v :: g.stack }) target) : Steps tb e below (T.setTop g) target := by
  subst hv
  exact XS.bipush h hx hg hd hr
theorem own_sipush {tb : Tables} [Ours tb] {e : Env} {below : List Frame} {T target : State} {m : MethodId} {c : Code} {g : JFrame} {v : Int32} (h : At T m c below) (hx : tb.exec = Jvm.exec) (hg : g.method = m) {i : Int} (hd : decode c.code g.pc = .ok (.sipush i, 3)) (hv : (Int16.ofInt i).toInt32 = v)
    (hr : Steps tb e below (T.setTop { g with pc := g.pc + 3, stack := .int v :: g.stack }) target) : Steps tb e below (T.setTop g) target := by
  subst hv
  exact XS.sipush h hx hg hd hr
/-! own layer: arrays by their whole list of values -/
def own_Ar (Z : State) (h : Heap) (a : Addr) (ty : FieldType) (L : List Value) : Prop := ∃ c : Cell, Arr Z h a c ty ∧ c.slots.toList = L
theorem own_lenL {L : List Value} {n : Nat} {z : Int32} (h : L.length = n) (h2 : n.toInt32 = z) : L.length.toInt32 = z := by rw [h]; exact h2
section OwnArr
variable {Z : State} {h h' : Heap} {a b : Addr} {ty : FieldType} {L : List Value}
theorem own_Ar_new {cA : ClassId} {n : Int32} {N : Nat} (A : Arr Z h a (newA cA ty n) ty) (hN : n.toNatClampNeg = N) (hL : List.replicate N (defaultValue ty) = L) : own_Ar Z h a ty L := ⟨_, A, by rw [← hL, ← hN]; simp [newA]⟩
theorem own_Ar_ext (F : own_Ar Z h a ty L) (E : Ext h h') : own_Ar Z h' a ty L := by obtain ⟨c, A, r⟩ := F; exact ⟨c, A.ext E, r⟩
theorem own_Ar_other {sl : Nat} {v : Value} (F : own_Ar Z h b ty L) (W : Wr h h' a sl v) (q : b ≠ a) : own_Ar Z h' b ty L := by obtain ⟨c, A, r⟩ := F; exact ⟨c, A.other W q, r⟩
theorem own_Ar_keep {ws : List Addr} (F : own_Ar Z h a ty L) (K : Keep h h' ws) (q : a ∉ ws) : own_Ar Z h' a ty L := by obtain ⟨c, A, r⟩ := F; exact ⟨c, ⟨K.2.1 a c A.1 q, A.2⟩, r⟩
theorem own_Ar_lt (F : own_Ar Z h a ty L) : a < h.size := by obtain ⟨c, A, -⟩ := F; exact A.lt
theorem own_Ar_ns (F : own_Ar Z h a ty L) : ∀ cell : Cell, h[a]? = some cell → cell.vm.isStatics = false := by obtain ⟨c, A, -⟩ := F; exact Arr.nostat A
theorem own_Ar_same {i : Nat} {v : Value} {L' : List Value} (F : own_Ar Z h a ty L) (W : Wr h h' a i v) (hL : L.set i v = L') : own_Ar Z h' a ty L' := by
  obtain ⟨c, A, r⟩ := F
  refine ⟨_, A.same W, ?_⟩
  rw [← hL, ← r]
  simp [Cell.setSlot]
theorem own_Ar_ne {C : String} {k : Nat} {a0 : Array Value} (E : Exa Z h b C) (wi : (Jvm.Cond.instantiable C k).before a0 Z = true) (F : own_Ar Z h a ty L) : b ≠ a := by obtain ⟨c, A, -⟩ := F; exact ne_arr E wi A
theorem own_in_of {c : Cell} {j : Int32} (r : c.slots.toList = L) (hj : ¬ j < 0) (hl : j.toNatClampNeg < L.length) : ¬ (j < 0 ∨ c.slots.size ≤ j.toNatClampNeg) := by
  have e : c.slots.size = L.length := by rw [← r]; simp
  rw [e]
  exact fun q => q.elim hj (fun z => absurd hl (Nat.not_lt.mpr z))
theorem own_at_of {c : Cell} {i : Nat} {v : Value} (r : c.slots.toList = L) (hv : L[i]? = some v) : c.slots[i]? = some v := by
  rw [← hv, ← r]; simp
theorem own_lt_of {i : Nat} {v : Value} (hv : L[i]? = some v) : i < L.length := (List.getElem?_eq_some_iff.mp hv).1
variable {p : Program} {l : Launch} {e : Env} {R : Room} {s : State} {m : MethodId} {args : Array Value} {below : List Frame} {meth : Method} {c : Code} {T : State} {locs : List Loc} {cells slots : Nat}
theorem own_stI (X : Stand p l e R s m args below meth c T locs cells slots) (hx : p.tables.exec = Jvm.exec) (hZ : Z.Warmed39 s.vm) (eT : T.heap = h) (F : own_Ar Z h a .int L) {j x : Int32} {i : Nat} (hi : j.toNatClampNeg = i) (hj : ¬ j < 0) (hl : i < L.length) {L' : List Value} (hL : L.set i (.int x) = L')
    {g : JFrame} (hg : g.method = m) {rest : List Value} (hs : g.stack = .int x :: .int j :: .ref a :: rest) (hd : decode c.code g.pc = .ok (.iastore, 1)) :
    ∃ T' h', Stand p l e R s m args below meth c T' (locs ++ [⟨a, i⟩]) cells slots ∧ T'.heap = h' ∧ Wr h h' a i (.int x) ∧ own_Ar Z h' a .int L' ∧ ∀ target, Steps p.tables e below (T'.setTop { g with pc := g.pc + 1, stack := rest }) target → Steps p.tables e below (T.setTop g) target := by
  subst hi
  obtain ⟨cl, A, r⟩ := F
  obtain ⟨T', h', X', e', W, st⟩ := stI X hx hZ eT A (own_in_of r hj hl) hg hs hd
  exact ⟨T', h', X', e', W, own_Ar_same ⟨cl, A, r⟩ W hL, st⟩
theorem own_ldI (X : Stand p l e R s m args below meth c T locs cells slots) (hx : p.tables.exec = Jvm.exec) (hZ : Z.Warmed39 s.vm) (eT : T.heap = h) (F : own_Ar Z h a .int L) {j : Int32} {v : Value} (hj : ¬ j < 0) (hv : L[j.toNatClampNeg]? = some v)
    {g : JFrame} (hg : g.method = m) {rest : List Value} (hs : g.stack = .int j :: .ref a :: rest) (hd : decode c.code g.pc = .ok (.iaload, 1)) :
    ∀ target, Steps p.tables e below (T.setTop { g with pc := g.pc + 1, stack := v :: rest }) target → Steps p.tables e below (T.setTop g) target := by
  obtain ⟨cl, A, r⟩ := F
  exact X.iaload hx (by rw [eT]; exact A.1) (State.isArrayOf_alike hZ.alike A.2.1) A.2.2 (own_in_of r hj (own_lt_of hv)) (own_at_of r hv) hg hs hd
theorem own_ldB (X : Stand p l e R s m args below meth c T locs cells slots) (hx : p.tables.exec = Jvm.exec) (hZ : Z.Warmed39 s.vm) (eT : T.heap = h) (F : own_Ar Z h a .byte L) {j : Int32} {v : Value} (hj : ¬ j < 0) (hv : L[j.toNatClampNeg]? = some v)
    {g : JFrame} (hg : g.method = m) {rest : List Value} (hs : g.stack = .int j :: .ref a :: rest) (hd : decode c.code g.pc = .ok (.baload, 1)) :
    ∀ target, Steps p.tables e below (T.setTop { g with pc := g.pc + 1, stack := v :: rest }) target → Steps p.tables e below (T.setTop g) target := by
  obtain ⟨cl, A, r⟩ := F
  exact X.baloadBytes hx (by rw [eT]; exact A.1) (State.isArrayOf_alike hZ.alike A.2.1) A.2.2 (own_in_of r hj (own_lt_of hv)) (own_at_of r hv) hg hs hd
theorem own_ldR (X : Stand p l e R s m args below meth c T locs cells slots) (hx : p.tables.exec = Jvm.exec) (hZ : Z.Warmed39 s.vm) (eT : T.heap = h) (F : own_Ar Z h a ty L) (hty : ty.isReference = true) {j : Int32} {v : Value} (hj : ¬ j < 0) (hv : L[j.toNatClampNeg]? = some v)
    {g : JFrame} (hg : g.method = m) {rest : List Value} (hs : g.stack = .int j :: .ref a :: rest) (hd : decode c.code g.pc = .ok (.aaload, 1)) :
    ∀ target, Steps p.tables e below (T.setTop { g with pc := g.pc + 1, stack := v :: rest }) target → Steps p.tables e below (T.setTop g) target := by
  obtain ⟨cl, A, r⟩ := F
  exact X.aaload hx (by rw [eT]; exact A.1) (State.isArrayOf_alike hZ.alike A.2.1) hty A.2.2 (own_in_of r hj (own_lt_of hv)) (own_at_of r hv) hg hs hd
theorem own_alen (X : Stand p l e R s m args below meth c T locs cells slots) (hx : p.tables.exec = Jvm.exec) (hZ : Z.Warmed39 s.vm) (eT : T.heap = h) (F : own_Ar Z h a ty L) {n : Int32} (hn : L.length.toInt32 = n)
    {g : JFrame} (hg : g.method = m) {rest : List Value} (hs : g.stack = .ref a :: rest) (hd : decode c.code g.pc = .ok (.arraylength, 1)) :
    ∀ target, Steps p.tables e below (T.setTop { g with pc := g.pc + 1, stack := .int n :: rest }) target → Steps p.tables e below (T.setTop g) target := by
  obtain ⟨cl, A, r⟩ := F
  have q : cl.slots.size.toInt32 = n := by rw [← hn, ← r]; simp
  rw [← q]
  exact fun t k => X.arraylength hx (by rw [eT]; exact A.1) (State.isArrayOf_alike hZ.alike A.2.1) hg hs hd t k
end OwnArr
/-! own layer: arrays of references -/
def own_Ao (Z : State) (h : Heap) (a : Addr) (C : String) (L : List Value) : Prop := ∃ c : Cell, Arr Z h a c (.object C) ∧ Ovr Z c.cls C ∧ c.slots.toList = L
section OwnArrO
variable {Z : State} {h h' : Heap} {a b : Addr} {C : String} {L : List Value}
theorem own_Ao_new {cA : ClassId} {n : Int32} (A : Arr Z h a (newA cA (.object C) n) (.object C)) (O : Ovr Z cA C) : own_Ao Z h a C (List.replicate n.toNatClampNeg .null) := ⟨_, A, O, by simp [newA, defaultValue]⟩
theorem own_Ao_ar (F : own_Ao Z h a C L) : own_Ar Z h a (.object C) L := by obtain ⟨c, A, -, r⟩ := F; exact ⟨c, A, r⟩
theorem own_Ao_ext (F : own_Ao Z h a C L) (E : Ext h h') : own_Ao Z h' a C L := by obtain ⟨c, A, r⟩ := F; exact ⟨c, A.ext E, r⟩
theorem own_Ao_other {sl : Nat} {v : Value} (F : own_Ao Z h b C L) (W : Wr h h' a sl v) (q : b ≠ a) : own_Ao Z h' b C L := by obtain ⟨c, A, r⟩ := F; exact ⟨c, A.other W q, r⟩
theorem own_Ao_keep {ws : List Addr} (F : own_Ao Z h a C L) (K : Keep h h' ws) (q : a ∉ ws) : own_Ao Z h' a C L := by obtain ⟨c, A, r⟩ := F; exact ⟨c, ⟨K.2.1 a c A.1 q, A.2⟩, r⟩
theorem own_Ao_lt (F : own_Ao Z h a C L) : a < h.size := by obtain ⟨c, A, -⟩ := F; exact A.lt
theorem own_Ao_same {i : Nat} {v : Value} (F : own_Ao Z h a C L) (W : Wr h h' a i v) : own_Ao Z h' a C (L.set i v) := by
  obtain ⟨c, A, O, r⟩ := F
  refine ⟨_, A.same W, O, ?_⟩
  rw [← r]
  simp [Cell.setSlot]
variable {p : Program} {l : Launch} {e : Env} {R : Room} {s : State} {m : MethodId} {args : Array Value} {below : List Frame} {meth : Method} {c : Code} {T : State} {locs : List Loc} {cells slots : Nat}
theorem own_stR (X : Stand p l e R s m args below meth c T locs cells slots) (hx : p.tables.exec = Jvm.exec) (hZ : Z.Warmed39 s.vm) (eT : T.heap = h) (F : own_Ao Z h a C L) {j : Int32} {v : Value} (hv : v = .null ∨ ∃ y, v = .ref y ∧ Ins Z h y C true) (hj : ¬ j < 0) (hl : j.toNatClampNeg < L.length)
    {g : JFrame} (hg : g.method = m) {rest : List Value} (hs : g.stack = v :: .int j :: .ref a :: rest) (hd : decode c.code g.pc = .ok (.aastore, 1)) :
    ∃ T' h', Stand p l e R s m args below meth c T' (locs ++ [⟨a, j.toNatClampNeg⟩]) cells slots ∧ T'.heap = h' ∧ Wr h h' a j.toNatClampNeg v ∧ own_Ao Z h' a C (L.set j.toNatClampNeg v) ∧ ∀ target, Steps p.tables e below (T'.setTop { g with pc := g.pc + 1, stack := rest }) target → Steps p.tables e below (T.setTop g) target := by
  obtain ⟨cl, A, O, r⟩ := F
  have S : Sto Z h a v := by
    rcases hv with rfl | ⟨y, rfl, I⟩
    · exact Or.inl rfl
    · exact Sto.of A O I
  obtain ⟨T', h', X', e', W, st⟩ := stR X hx hZ eT A (own_in_of r hj hl) rfl S hg hs hd
  exact ⟨T', h', X', e', W, own_Ao_same ⟨cl, A, O, r⟩ W, st⟩
end OwnArrO
/-! own layer: a bundle of boxed ints -/
def own_Bn (Z : State) (h : Heap) (l : List (Addr × Int32)) : Prop := ∀ x ∈ l, Exa Z h x.1 "java/lang/Integer" ∧ Fld Z h x.1 "java/lang/Integer" "value" "I" (.int x.2)
theorem own_Bn_keep {Z : State} {h h' : Heap} {l : List (Addr × Int32)} {ws : List Addr} (B : own_Bn Z h l) (K : Keep h h' ws) (q : ∀ x ∈ l, x.1 ∉ ws) : own_Bn Z h' l := fun x hx => ⟨(B x hx).1.keep K, (B x hx).2.keep K (q x hx)⟩
theorem own_Bn_exa {Z : State} {h : Heap} {l : List (Addr × Int32)} {a : Addr} {v : Int32} (B : own_Bn Z h l) (q : (a, v) ∈ l) : Exa Z h a "java/lang/Integer" := (B _ q).1
theorem own_Bn_fld {Z : State} {h : Heap} {l : List (Addr × Int32)} {a : Addr} {v : Int32} (B : own_Bn Z h l) (q : (a, v) ∈ l) : Fld Z h a "java/lang/Integer" "value" "I" (.int v) := (B _ q).2
theorem own_Bn_nil (Z : State) (h : Heap) : own_Bn Z h [] := fun _ q => nomatch q
theorem own_Bn_cons {Z : State} {h : Heap} {l : List (Addr × Int32)} {a : Addr} {v : Int32} (E : Exa Z h a "java/lang/Integer") (F : Fld Z h a "java/lang/Integer" "value" "I" (.int v)) (B : own_Bn Z h l) : own_Bn Z h ((a, v) :: l) := fun x hx => by
  rcases List.mem_cons.mp hx with rfl | q
  · exact ⟨E, F⟩
  · exact B x q
theorem own_stB {Z : State} {h : Heap} {a : Addr} {L : List Value} {p : Program} {l : Launch} {e : Env} {R : Room} {s : State} {m : MethodId} {args : Array Value} {below : List Frame} {meth : Method} {c : Code} {T : State} {locs : List Loc} {cells slots : Nat}
    (X : Stand p l e R s m args below meth c T locs cells slots) (hx : p.tables.exec = Jvm.exec) (hZ : Z.Warmed39 s.vm) (eT : T.heap = h) (F : own_Ar Z h a .byte L) {j x : Int32} {i : Nat} (hi : j.toNatClampNeg = i) (hj : ¬ j < 0) (hl : i < L.length) (hn : nar .byte x = x) {L' : List Value} (hL : L.set i (.int x) = L')
    {g : JFrame} (hg : g.method = m) {rest : List Value} (hs : g.stack = .int x :: .int j :: .ref a :: rest) (hd : decode c.code g.pc = .ok (.bastore, 1)) :
    ∃ T' h', Stand p l e R s m args below meth c T' (locs ++ [⟨a, i⟩]) cells slots ∧ T'.heap = h' ∧ Wr h h' a i (.int x) ∧ own_Ar Z h' a .byte L' ∧ ∀ target, Steps p.tables e below (T'.setTop { g with pc := g.pc + 1, stack := rest }) target → Steps p.tables e below (T.setTop g) target := by
  subst hi
  obtain ⟨cl, A, r⟩ := F
  obtain ⟨T', h', X', e', W, st⟩ := stB X hx hZ eT A (own_in_of r hj hl) hg hs hd
  rw [hn] at W
  exact ⟨T', h', X', e', W, own_Ar_same ⟨cl, A, r⟩ W hL, st⟩
theorem own_arv_of {Z : State} {h : Heap} {a : Addr} {ty : FieldType} {L : List Value} {z : Int32} {dv : Value} (F : own_Ar Z h a ty L) (hz : z.toNatClampNeg = L.length) (h0 : ¬ z < 0) (hf : ∀ v ∈ L, fits ty v = true) : ∃ k, Arv Z h a k ty z L dv := by
  obtain ⟨c, A, r⟩ := F
  have hs : c.slots.size = L.length := by rw [← r]; simp
  refine ⟨c.cls, c, A, rfl, by rw [hz, hs], h0, fun i hi => ?_, fun i hi => ?_⟩
  · have hi' : i < L.length := by rw [← hs]; exact hi
    refine own_at_of r ?_
    rw [List.getElem?_eq_getElem hi', List.getD_eq_getElem?_getD, List.getElem?_eq_getElem hi']; rfl
  · have hi' : i < L.length := by rw [← hs]; exact hi
    rw [List.getD_eq_getElem?_getD, List.getElem?_eq_getElem hi']
    exact hf _ (List.getElem_mem hi')
theorem own_ar_of {Z : State} {h : Heap} {a : Addr} {k : ClassId} {ty : FieldType} {L : List Value} {z : Int32} {dv : Value} (F : Arv Z h a k ty z L dv) (hz : z.toNatClampNeg = L.length) : own_Ar Z h a ty L := by
  obtain ⟨c, A, -, hs, -, H, -⟩ := F
  refine ⟨c, A, ?_⟩
  apply List.ext_getElem?
  intro i
  by_cases hi : i < c.slots.size
  · have q := H i hi
    have hi' : i < L.length := by rw [← hz, ← hs]; exact hi
    rw [List.getD_eq_getElem?_getD, List.getElem?_eq_getElem hi'] at q
    rw [List.getElem?_eq_getElem hi', Array.getElem?_toList]
    exact q
  · have h1 : c.slots.toList[i]? = none := by rw [List.getElem?_eq_none_iff]; simpa using hi
    have h2 : L[i]? = none := by rw [List.getElem?_eq_none_iff, ← hz, ← hs]; omega
    rw [h1, h2]
theorem own_ldD {Z : State} {h : Heap} {a : Addr} {L : List Value} {p : Program} {l : Launch} {e : Env} {R : Room} {s : State} {m : MethodId} {args : Array Value} {below : List Frame} {meth : Method} {c : Code} {T : State} {locs : List Loc} {cells slots : Nat}
    (X : Stand p l e R s m args below meth c T locs cells slots) (hx : p.tables.exec = Jvm.exec) (hZ : Z.Warmed39 s.vm) (eT : T.heap = h) (F : own_Ar Z h a .double L) {j : Int32} {v : Value} (hj : ¬ j < 0) (hv : L[j.toNatClampNeg]? = some v)
    {g : JFrame} (hg : g.method = m) {rest : List Value} (hs : g.stack = .int j :: .ref a :: rest) (hd : decode c.code g.pc = .ok (.daload, 1)) :
    ∀ target, Steps p.tables e below (T.setTop { g with pc := g.pc + 1, stack := v :: rest }) target → Steps p.tables e below (T.setTop g) target := by
  obtain ⟨cl, A, r⟩ := F
  exact X.daload hx (by rw [eT]; exact A.1) (State.isArrayOf_alike hZ.alike A.2.1) A.2.2 (own_in_of r hj (own_lt_of hv)) (own_at_of r hv) hg hs hd
theorem own_stD {Z : State} {h : Heap} {a : Addr} {L : List Value} {p : Program} {l : Launch} {e : Env} {R : Room} {s : State} {m : MethodId} {args : Array Value} {below : List Frame} {meth : Method} {c : Code} {T : State} {locs : List Loc} {cells slots : Nat}
    (X : Stand p l e R s m args below meth c T locs cells slots) (hx : p.tables.exec = Jvm.exec) (hZ : Z.Warmed39 s.vm) (eT : T.heap = h) (F : own_Ar Z h a .double L) {j : Int32} {x : UInt64} {i : Nat} (hi : j.toNatClampNeg = i) (hj : ¬ j < 0) (hl : i < L.length) {L' : List Value} (hL : L.set i (.double x) = L')
    {g : JFrame} (hg : g.method = m) {rest : List Value} (hs : g.stack = .double x :: .int j :: .ref a :: rest) (hd : decode c.code g.pc = .ok (.dastore, 1)) :
    ∃ T' h', Stand p l e R s m args below meth c T' (locs ++ [⟨a, i⟩]) cells slots ∧ T'.heap = h' ∧ Wr h h' a i (.double x) ∧ own_Ar Z h' a .double L' ∧ ∀ target, Steps p.tables e below (T'.setTop { g with pc := g.pc + 1, stack := rest }) target → Steps p.tables e below (T.setTop g) target := by
  subst hi
  obtain ⟨cl, A, r⟩ := F
  obtain ⟨T', h', X', e', W, st⟩ := stD X hx hZ eT A (own_in_of r hj hl) hg hs hd
  exact ⟨T', h', X', e', W, own_Ar_same ⟨cl, A, r⟩ W hL, st⟩
theorem own_retD {p : Program} {l : Launch} {e : Env} {R : Room} {s : State} {m : MethodId} {args : Array Value} {below : List Frame} {meth : Method} {c : Code} {T : State} {locs : List Loc} {cells slots : Nat} (X : Stand p l e R s m args below meth c T locs cells slots) (hx : p.tables.exec = Jvm.exec) (hlk : meth.locks = false) {K N pc : Nat} {Ls : Array Slot} {z : UInt64} {rest : List Value} {Q : Option Value → Heap → List Loc → Prop} (hret : meth.sig.returnType = some .double)
    (hd : decode c.code pc = .ok (.dreturn, 1)) (hK : cells ≤ K) (hN : slots ≤ N) (hQ : Q (some (.double z)) T.heap locs) :
    own_G p.tables e below (fun o U' => ∃ v L, o = .returned v ∧ Q v U'.heap L ∧ FrameEnd s o U' L K N) (T.setTop (mkF m pc Ls (.double z :: rest))) :=
  own_ret X hx hlk hret rfl (Or.inr (Or.inr (Or.inl ⟨rfl, rfl, z, rfl⟩))) hd hK hN hQ
theorem own_cast {tb : Tables} {e : Env} {below : List Frame} {F : Outcome → State → Prop} {A B : State} (h : A = B) (k : own_G tb e below F B) : own_G tb e below F A := h ▸ k
def own_c (x y : UInt64) : Int32 := cmpValue (FP.dcmp x y) .l
def own_cg (x y : UInt64) : Int32 := cmpValue (FP.dcmp x y) .g
abbrev own_y1 : MethodName := ⟨"java/lang/Record", "<init>", "()V"⟩
abbrev own_y2 : MethodName := ⟨"com/example/sluicegate/sluicegate/stat/WindowStatistics", "<init>", "(JJJJJJJJ)V"⟩
abbrev own_y3 : MethodName := ⟨"com/example/sluicegate/sluicegate/stat/WindowStatisticsAverageResponseMillisPinLaw", "make", "(JJJ)Lcom/example/sluicegate/sluicegate/stat/WindowStatistics;"⟩
abbrev own_y4 : MethodName := ⟨"com/example/sluicegate/sluicegate/stat/WindowStatistics", "averageResponseMillis", "()D"⟩
theorem own_pd1 : parseMethodDescriptor "()V" = some ⟨[], none⟩ := by decide +kernel
theorem own_pd2 : parseMethodDescriptor "(JJJJJJJJ)V" = some ⟨[.long, .long, .long, .long, .long, .long, .long, .long], none⟩ := by decide +kernel
theorem own_pd3 : parseMethodDescriptor "(JJJ)Lcom/example/sluicegate/sluicegate/stat/WindowStatistics;" = some ⟨[.long, .long, .long], (some (.object "com/example/sluicegate/sluicegate/stat/WindowStatistics"))⟩ := by decide +kernel
theorem own_pd4 : parseMethodDescriptor "()D" = some ⟨[], (some .double)⟩ := by decide +kernel

def own_avg (t c : Int64) : UInt64 := if c = 0 then (0 : UInt64) else FP.ddiv (FP.l2d t) (FP.l2d c)
theorem own_nnD {x : UInt64} (h : FP.Core.val64 x ≠ .nan) : Jvm.Free.Fl.NoNaN64 x := Jvm.Free.Fl.noNaN64_no.mpr ((FP.Core.notNaN_iff x).mpr h)
theorem own_nn {t c : Int64} (h : ¬ c = 0) : Jvm.Free.Fl.NoNaN64 (FP.ddiv (FP.l2d t) (FP.l2d c)) := own_nnD (FP.Core.own_dfin (a := t) h).ne_nan

theorem own_rec_d0 : decode jdk_30_method_1_code 0 = .ok (.aload_n 0, 1) := by decide +kernel
theorem own_rec_d1 : decode jdk_30_method_1_code 1 = .ok (.invokespecial 1, 3) := by decide +kernel
theorem own_rec_d4 : decode jdk_30_method_1_code 4 = .ok (.return_, 1) := by decide +kernel
theorem own_rec_pn : plainName "java/lang/Record" = true := by first | (simp [plainName, overriddenIn]; done) | decide +kernel
theorem own_rec_ef (m : MethodId) (ra : Addr) : entryFrame m #[(.ref ra)] 1 = mkF m 0 #[rv ra] [] := by first | (simp [entryFrame, mkF, argsToLocals, Value.category]; done) | rfl
def own_rec_Q (Z : State) (ra : Addr) (h0 : Heap) (n0 : Nat) (v : Option Value) (h : Heap) (L : List Loc) : Prop := v = none ∧ Fr n0 L ∧ h = h0
set_option maxRecDepth 65536 in
set_option maxHeartbeats 40000000 in
theorem own_rec (l : Launch) (Z : State) (a0 : Array Value) (hw : ∀ d ∈ tables_1, d.before a0 Z = true) (ws : List Jvm.Cond) (ra : Addr) (h0 : Heap) (n0 : Nat) :
    MetFree l own_y1 (head1 (Jvm.Cond.code own_y1 jdk_30_method_1_code 1 none :: ws) ({ frames := 1, cells := 0, slots := 0, locals := 12 } : Room)) (fun a U => a = #[(.ref ra)] ∧ Z.Warmed39 U.vm ∧ U.heap = h0) (fun _ _ _ _ _ => True) (fun _ U o U' => ∃ v L, o = .returned v ∧ (own_rec_Q Z ra h0 n0) v U'.heap L ∧ FrameEnd U o U' L ({ frames := 1, cells := 0, slots := 0, locals := 12 } : Room).cells ({ frames := 1, cells := 0, slots := 0, locals := 12 } : Room).slots) := by
  refine MetFree.of_bodySF (plainFor_of_name own_rec_pn) hisR ?_
  intro p e s m args below meth c s₁ Bd hml0 hP hK
  obtain ⟨rfl, hZ, hh⟩ := hP
  have hx := Bd.exec
  have hby := Bd.bytes
  have hml : c.maxLocals = 1 := hml0
  have hown : s.vm.findClass "java/lang/Record" = some m.cls := findClass_of_methodNamed Bd.named
  have hnm := (name_of_methodNamed Bd.named Bd.method).1
  have hlk : meth.locks = false := Bd.notSynchronized
  have X0 : Stand p l e ({ frames := 1, cells := 0, slots := 0, locals := 12 } : Room) s m #[(.ref ra)] below meth c s₁ [] 0 0 := Stand.of_body Bd
  have e0 : s₁.heap = h0 := by rw [← hh, Bd.state]; rfl
  have N0 := Fr.nil n0
  have w_16 := hw _ (List.mem_of_getElem? (l := tables_1) (i := 16) rfl)
  have w_17 := hw _ (List.mem_of_getElem? (l := tables_1) (i := 17) rfl)
  have w_18 := hw _ (List.mem_of_getElem? (l := tables_1) (i := 18) rfl)
  show own_G p.tables e below (fun o U' => ∃ v L, o = .returned v ∧ (own_rec_Q Z ra h0 n0) v U'.heap L ∧ FrameEnd s o U' L ({ frames := 1, cells := 0, slots := 0, locals := 12 } : Room).cells ({ frames := 1, cells := 0, slots := 0, locals := 12 } : Room).slots) (s₁.setTop (entryFrame m #[(.ref ra)] 1))
  refine own_go (B := s₁.setTop (mkF m 0 #[rv ra] [])) (fun t k => castTop (own_rec_ef m ra) k) ?_
  refine own_go (B := (s₁.setTop (mkF m 1 #[rv ra] [(.ref ra)]))) (fun t k => XS.aloadN X0.here hx rfl (hb hby own_rec_d0) rfl rfl k) ?_
  obtain ⟨T1, X1, e1, st1⟩ := initO X0 hx hZ hown w_16 w_17 w_18 e0 (g := (mkF m 1 #[rv ra] [(.ref ra)])) rfl (by rw [hml]; rfl) rfl (hb hby own_rec_d1) (by decide) (W := 0) (by show 2 * 0 + _ ≤ _; exact own_b rfl) (by decide)
  refine own_go (B := (T1.setTop (mkF m 4 #[rv ra] []))) st1 ?_
  exact own_retV X1 hx hlk Bd.returns (hb hby own_rec_d4) (own_b rfl) (own_b rfl) (Q := (own_rec_Q Z ra h0 n0)) ⟨rfl, N0, e1⟩

theorem own_ct_d0 : decode prog_100_method_1_code 0 = .ok (.aload_n 0, 1) := by decide +kernel
theorem own_ct_d1 : decode prog_100_method_1_code 1 = .ok (.invokespecial 1, 3) := by decide +kernel
theorem own_ct_d4 : decode prog_100_method_1_code 4 = .ok (.aload_n 0, 1) := by decide +kernel
theorem own_ct_d5 : decode prog_100_method_1_code 5 = .ok (.lload_n 1, 1) := by decide +kernel
theorem own_ct_d6 : decode prog_100_method_1_code 6 = .ok (.putfield 7, 3) := by decide +kernel
theorem own_ct_d9 : decode prog_100_method_1_code 9 = .ok (.aload_n 0, 1) := by decide +kernel
theorem own_ct_d10 : decode prog_100_method_1_code 10 = .ok (.lload_n 3, 1) := by decide +kernel
theorem own_ct_d11 : decode prog_100_method_1_code 11 = .ok (.putfield 13, 3) := by decide +kernel
theorem own_ct_d14 : decode prog_100_method_1_code 14 = .ok (.aload_n 0, 1) := by decide +kernel
theorem own_ct_d15 : decode prog_100_method_1_code 15 = .ok (.lload 5, 2) := by decide +kernel
theorem own_ct_d17 : decode prog_100_method_1_code 17 = .ok (.putfield 16, 3) := by decide +kernel
theorem own_ct_d20 : decode prog_100_method_1_code 20 = .ok (.aload_n 0, 1) := by decide +kernel
theorem own_ct_d21 : decode prog_100_method_1_code 21 = .ok (.lload 7, 2) := by decide +kernel
theorem own_ct_d23 : decode prog_100_method_1_code 23 = .ok (.putfield 19, 3) := by decide +kernel
theorem own_ct_d26 : decode prog_100_method_1_code 26 = .ok (.aload_n 0, 1) := by decide +kernel
theorem own_ct_d27 : decode prog_100_method_1_code 27 = .ok (.lload 9, 2) := by decide +kernel
theorem own_ct_d29 : decode prog_100_method_1_code 29 = .ok (.putfield 22, 3) := by decide +kernel
theorem own_ct_d32 : decode prog_100_method_1_code 32 = .ok (.aload_n 0, 1) := by decide +kernel
theorem own_ct_d33 : decode prog_100_method_1_code 33 = .ok (.lload 11, 2) := by decide +kernel
theorem own_ct_d35 : decode prog_100_method_1_code 35 = .ok (.putfield 25, 3) := by decide +kernel
theorem own_ct_d38 : decode prog_100_method_1_code 38 = .ok (.aload_n 0, 1) := by decide +kernel
theorem own_ct_d39 : decode prog_100_method_1_code 39 = .ok (.lload 13, 2) := by decide +kernel
theorem own_ct_d41 : decode prog_100_method_1_code 41 = .ok (.putfield 28, 3) := by decide +kernel
theorem own_ct_d44 : decode prog_100_method_1_code 44 = .ok (.aload_n 0, 1) := by decide +kernel
theorem own_ct_d45 : decode prog_100_method_1_code 45 = .ok (.lload 15, 2) := by decide +kernel
theorem own_ct_d47 : decode prog_100_method_1_code 47 = .ok (.putfield 31, 3) := by decide +kernel
theorem own_ct_d50 : decode prog_100_method_1_code 50 = .ok (.return_, 1) := by decide +kernel
theorem own_ct_pn : plainName "com/example/sluicegate/sluicegate/stat/WindowStatistics" = true := by first | (simp [plainName, overriddenIn]; done) | decide +kernel
theorem own_ct_ef (m : MethodId) (th : Addr) (p1 : Int64) (p2 : Int64) (p3 : Int64) (p4 : Int64) (p5 : Int64) (p6 : Int64) (p7 : Int64) (p8 : Int64) : entryFrame m #[(.ref th), (.long p1), (.long p2), (.long p3), (.long p4), (.long p5), (.long p6), (.long p7), (.long p8)] 17 = mkF m 0 #[rv th, .val (.long p1), .second, .val (.long p2), .second, .val (.long p3), .second, .val (.long p4), .second, .val (.long p5), .second, .val (.long p6), .second, .val (.long p7), .second, .val (.long p8), .second] [] := by first | (simp [entryFrame, mkF, argsToLocals, Value.category]; done) | rfl
def own_ct_Q (Z : State) (th : Addr) (p1 : Int64) (p2 : Int64) (p3 : Int64) (p4 : Int64) (p5 : Int64) (p6 : Int64) (p7 : Int64) (p8 : Int64) (h0 : Heap) (n0 : Nat) (v : Option Value) (h : Heap) (L : List Loc) : Prop := v = none ∧ Fr n0 L ∧ Keep h0 h [th] ∧ Exa Z h th "com/example/sluicegate/sluicegate/stat/WindowStatistics" ∧ Fld Z h th "com/example/sluicegate/sluicegate/stat/WindowStatistics" "startMillis" "J" (.long p1) ∧ Fld Z h th "com/example/sluicegate/sluicegate/stat/WindowStatistics" "lengthMillis" "J" (.long p2) ∧ Fld Z h th "com/example/sluicegate/sluicegate/stat/WindowStatistics" "passed" "J" (.long p3) ∧ Fld Z h th "com/example/sluicegate/sluicegate/stat/WindowStatistics" "refused" "J" (.long p4) ∧ Fld Z h th "com/example/sluicegate/sluicegate/stat/WindowStatistics" "completed" "J" (.long p5) ∧ Fld Z h th "com/example/sluicegate/sluicegate/stat/WindowStatistics" "errors" "J" (.long p6) ∧ Fld Z h th "com/example/sluicegate/sluicegate/stat/WindowStatistics" "totalResponseMillis" "J" (.long p7) ∧ Fld Z h th "com/example/sluicegate/sluicegate/stat/WindowStatistics" "minResponseMillis" "J" (.long p8)
set_option maxRecDepth 65536 in
set_option maxHeartbeats 40000000 in
theorem own_ct (l : Launch) (Z : State) (a0 : Array Value) (hw : ∀ d ∈ tables_1, d.before a0 Z = true) (ws : List Jvm.Cond) (th : Addr) (p1 : Int64) (p2 : Int64) (p3 : Int64) (p4 : Int64) (p5 : Int64) (p6 : Int64) (p7 : Int64) (p8 : Int64) (h0 : Heap) (n0 : Nat) (Z0 : n0 ≤ h0.size) (E0 : Exa Z h0 th "com/example/sluicegate/sluicegate/stat/WindowStatistics") (g0 : n0 ≤ th) (F9000 : Fld Z h0 th "com/example/sluicegate/sluicegate/stat/WindowStatistics" "startMillis" "J" (.long (0 : Int64))) (F9001 : Fld Z h0 th "com/example/sluicegate/sluicegate/stat/WindowStatistics" "lengthMillis" "J" (.long (0 : Int64))) (F9002 : Fld Z h0 th "com/example/sluicegate/sluicegate/stat/WindowStatistics" "passed" "J" (.long (0 : Int64))) (F9003 : Fld Z h0 th "com/example/sluicegate/sluicegate/stat/WindowStatistics" "refused" "J" (.long (0 : Int64))) (F9004 : Fld Z h0 th "com/example/sluicegate/sluicegate/stat/WindowStatistics" "completed" "J" (.long (0 : Int64))) (F9005 : Fld Z h0 th "com/example/sluicegate/sluicegate/stat/WindowStatistics" "errors" "J" (.long (0 : Int64))) (F9006 : Fld Z h0 th "com/example/sluicegate/sluicegate/stat/WindowStatistics" "totalResponseMillis" "J" (.long (0 : Int64))) (F9007 : Fld Z h0 th "com/example/sluicegate/sluicegate/stat/WindowStatistics" "minResponseMillis" "J" (.long (0 : Int64))) :
    MetFree l own_y2 (head1 (Jvm.Cond.code own_y2 prog_100_method_1_code 17 none :: ws) ({ frames := 2, cells := 0, slots := 0, locals := 24 } : Room)) (fun a U => a = #[(.ref th), (.long p1), (.long p2), (.long p3), (.long p4), (.long p5), (.long p6), (.long p7), (.long p8)] ∧ Z.Warmed39 U.vm ∧ U.heap = h0) (fun _ _ _ _ _ => True) (fun _ U o U' => ∃ v L, o = .returned v ∧ (own_ct_Q Z th p1 p2 p3 p4 p5 p6 p7 p8 h0 n0) v U'.heap L ∧ FrameEnd U o U' L ({ frames := 2, cells := 0, slots := 0, locals := 24 } : Room).cells ({ frames := 2, cells := 0, slots := 0, locals := 24 } : Room).slots) := by
  refine MetFree.of_bodySF (plainFor_of_name own_ct_pn) hisR ?_
  intro p e s m args below meth c s₁ Bd hml0 hP hK
  obtain ⟨rfl, hZ, hh⟩ := hP
  have hx := Bd.exec
  have hby := Bd.bytes
  have hml : c.maxLocals = 17 := hml0
  have hown : s.vm.findClass "com/example/sluicegate/sluicegate/stat/WindowStatistics" = some m.cls := findClass_of_methodNamed Bd.named
  have hnm := (name_of_methodNamed Bd.named Bd.method).1
  have hlk : meth.locks = false := Bd.notSynchronized
  have X0 : Stand p l e ({ frames := 2, cells := 0, slots := 0, locals := 24 } : Room) s m #[(.ref th), (.long p1), (.long p2), (.long p3), (.long p4), (.long p5), (.long p6), (.long p7), (.long p8)] below meth c s₁ [] 0 0 := Stand.of_body Bd
  have e0 : s₁.heap = h0 := by rw [← hh, Bd.state]; rfl
  have N0 := Fr.nil n0
  have w_5 := hw _ (List.mem_of_getElem? (l := tables_1) (i := 5) rfl)
  have w_11 := hw _ (List.mem_of_getElem? (l := tables_1) (i := 11) rfl)
  have w_12 := hw _ (List.mem_of_getElem? (l := tables_1) (i := 12) rfl)
  have w_14 := hw _ (List.mem_of_getElem? (l := tables_1) (i := 14) rfl)
  have w_15 := hw _ (List.mem_of_getElem? (l := tables_1) (i := 15) rfl)
  have w_19 := hw _ (List.mem_of_getElem? (l := tables_1) (i := 19) rfl)
  have w_20 := hw _ (List.mem_of_getElem? (l := tables_1) (i := 20) rfl)
  have w_21 := hw _ (List.mem_of_getElem? (l := tables_1) (i := 21) rfl)
  have w_22 := hw _ (List.mem_of_getElem? (l := tables_1) (i := 22) rfl)
  have w_23 := hw _ (List.mem_of_getElem? (l := tables_1) (i := 23) rfl)
  have w_24 := hw _ (List.mem_of_getElem? (l := tables_1) (i := 24) rfl)
  have w_25 := hw _ (List.mem_of_getElem? (l := tables_1) (i := 25) rfl)
  have w_26 := hw _ (List.mem_of_getElem? (l := tables_1) (i := 26) rfl)
  have w_27 := hw _ (List.mem_of_getElem? (l := tables_1) (i := 27) rfl)
  have w_28 := hw _ (List.mem_of_getElem? (l := tables_1) (i := 28) rfl)
  have w_29 := hw _ (List.mem_of_getElem? (l := tables_1) (i := 29) rfl)
  have w_30 := hw _ (List.mem_of_getElem? (l := tables_1) (i := 30) rfl)
  have w_31 := hw _ (List.mem_of_getElem? (l := tables_1) (i := 31) rfl)
  have w_32 := hw _ (List.mem_of_getElem? (l := tables_1) (i := 32) rfl)
  have w_33 := hw _ (List.mem_of_getElem? (l := tables_1) (i := 33) rfl)
  have w_34 := hw _ (List.mem_of_getElem? (l := tables_1) (i := 34) rfl)
  show own_G p.tables e below (fun o U' => ∃ v L, o = .returned v ∧ (own_ct_Q Z th p1 p2 p3 p4 p5 p6 p7 p8 h0 n0) v U'.heap L ∧ FrameEnd s o U' L ({ frames := 2, cells := 0, slots := 0, locals := 24 } : Room).cells ({ frames := 2, cells := 0, slots := 0, locals := 24 } : Room).slots) (s₁.setTop (entryFrame m #[(.ref th), (.long p1), (.long p2), (.long p3), (.long p4), (.long p5), (.long p6), (.long p7), (.long p8)] 17))
  refine own_go (B := s₁.setTop (mkF m 0 #[rv th, .val (.long p1), .second, .val (.long p2), .second, .val (.long p3), .second, .val (.long p4), .second, .val (.long p5), .second, .val (.long p6), .second, .val (.long p7), .second, .val (.long p8), .second] [])) (fun t k => castTop (own_ct_ef m th p1 p2 p3 p4 p5 p6 p7 p8) k) ?_
  have K0 := Keep.refl h0 [th]
  refine own_go (B := (s₁.setTop (mkF m 1 #[rv th, .val (.long p1), .second, .val (.long p2), .second, .val (.long p3), .second, .val (.long p4), .second, .val (.long p5), .second, .val (.long p6), .second, .val (.long p7), .second, .val (.long p8), .second] [(.ref th)]))) (fun t k => XS.aloadN X0.here hx rfl (hb hby own_ct_d0) rfl rfl k) ?_
  obtain ⟨_, _, ⟨T1, L1, k1, n1⟩, -, X1, ⟨Lc1, hQ1, l1, yy1, zz1⟩, st1⟩ := X0.specialBack hx (y := own_y1) rfl hown (mvT hZ w_11) (mvT hZ w_12) (mvT hZ w_15) (by decide) (backOf (W := 0) (own_rec l Z a0 hw [] th h0 n0) hZ w_15 w_14 (by decide) (by decide)) (g := (mkF m 1 #[rv th, .val (.long p1), .second, .val (.long p2), .second, .val (.long p3), .second, .val (.long p4), .second, .val (.long p5), .second, .val (.long p6), .second, .val (.long p7), .second, .val (.long p8), .second] [(.ref th)])) rfl (by rw [hml]; rfl) (Steps.refl _) (a := th) (argsL := []) (rest := []) (lenOf own_pd1 rfl) rfl (by show 2 * 0 + _ ≤ _; exact own_b rfl) (hb hby own_ct_d1) (fun _ _ => ⟨rfl, e0, (own_b rfl : 0 + 0 ≤ _), (own_b rfl : 0 + 0 ≤ _)⟩)
  dsimp only [Pt.U, Pt.locs, Pt.cells, Pt.slots] at X1 l1 yy1 zz1 st1 hQ1
  obtain ⟨rfl, Nq1, eq1⟩ := hQ1
  obtain ⟨L1, X1, N1⟩ := own_absC (K := 0) (K' := 0) X1 l1 yy1 zz1 N0 Nq1
  have e1 : T1.heap = h0 := eq1
  refine own_tr (B := (T1.setTop (mkF m 4 #[rv th, .val (.long p1), .second, .val (.long p2), .second, .val (.long p3), .second, .val (.long p4), .second, .val (.long p5), .second, .val (.long p6), .second, .val (.long p7), .second, .val (.long p8), .second] []))) st1 ?_
  refine own_go (B := (T1.setTop (mkF m 5 #[rv th, .val (.long p1), .second, .val (.long p2), .second, .val (.long p3), .second, .val (.long p4), .second, .val (.long p5), .second, .val (.long p6), .second, .val (.long p7), .second, .val (.long p8), .second] [(.ref th)]))) (fun t k => XS.aloadN X1.here hx rfl (hb hby own_ct_d4) rfl rfl k) ?_
  refine own_go (B := (T1.setTop (mkF m 6 #[rv th, .val (.long p1), .second, .val (.long p2), .second, .val (.long p3), .second, .val (.long p4), .second, .val (.long p5), .second, .val (.long p6), .second, .val (.long p7), .second, .val (.long p8), .second] [(.long p1), (.ref th)]))) (fun t k => XS.lloadN X1.here hx rfl (hb hby own_ct_d5) rfl k) ?_
  obtain ⟨T2, h2, X2, e2, W2, st2⟩ := putF X1 hx hZ hown (host := "") (Or.inl w_19) Via.refl e1 F9000 E0 (Or.inr ⟨w_20, rfl, hnm⟩) w_5 (ty := .long) (by decide) rfl rfl (g := (mkF m 6 #[rv th, .val (.long p1), .second, .val (.long p2), .second, .val (.long p3), .second, .val (.long p4), .second, .val (.long p5), .second, .val (.long p6), .second, .val (.long p7), .second, .val (.long p8), .second] [(.long p1), (.ref th)])) rfl rfl (hb hby own_ct_d6)
  refine own_go (B := (T2.setTop (mkF m 9 #[rv th, .val (.long p1), .second, .val (.long p2), .second, .val (.long p3), .second, .val (.long p4), .second, .val (.long p5), .second, .val (.long p6), .second, .val (.long p7), .second, .val (.long p8), .second] []))) st2 ?_
  obtain ⟨L2, X2, N2⟩ := own_abs X2 (Fr.snoc X2 N1 g0)
  have F3 : n0 ≤ h2.size := by rw [W2.size]; exact Z0
  have F4 := Exa.wr W2 E0
  have F5 := Keep.wr K0 W2 (Or.inl (List.mem_of_getElem? (i := 0) rfl))
  have F6 := Fld.same W2 F9000
  have F7 := Fld.other W2 F9001 (Or.inr (slot_ne (t := .long) (t' := .long) (Or.inr w_22) (Or.inr w_20) (by decide) (by decide) (by decide)))
  have F8 := Fld.other W2 F9002 (Or.inr (slot_ne (t := .long) (t' := .long) (Or.inr w_24) (Or.inr w_20) (by decide) (by decide) (by decide)))
  have F9 := Fld.other W2 F9003 (Or.inr (slot_ne (t := .long) (t' := .long) (Or.inr w_26) (Or.inr w_20) (by decide) (by decide) (by decide)))
  have F10 := Fld.other W2 F9004 (Or.inr (slot_ne (t := .long) (t' := .long) (Or.inr w_28) (Or.inr w_20) (by decide) (by decide) (by decide)))
  have F11 := Fld.other W2 F9005 (Or.inr (slot_ne (t := .long) (t' := .long) (Or.inr w_30) (Or.inr w_20) (by decide) (by decide) (by decide)))
  have F12 := Fld.other W2 F9006 (Or.inr (slot_ne (t := .long) (t' := .long) (Or.inr w_32) (Or.inr w_20) (by decide) (by decide) (by decide)))
  have F13 := Fld.other W2 F9007 (Or.inr (slot_ne (t := .long) (t' := .long) (Or.inr w_34) (Or.inr w_20) (by decide) (by decide) (by decide)))
  refine own_go (B := (T2.setTop (mkF m 10 #[rv th, .val (.long p1), .second, .val (.long p2), .second, .val (.long p3), .second, .val (.long p4), .second, .val (.long p5), .second, .val (.long p6), .second, .val (.long p7), .second, .val (.long p8), .second] [(.ref th)]))) (fun t k => XS.aloadN X2.here hx rfl (hb hby own_ct_d9) rfl rfl k) ?_
  refine own_go (B := (T2.setTop (mkF m 11 #[rv th, .val (.long p1), .second, .val (.long p2), .second, .val (.long p3), .second, .val (.long p4), .second, .val (.long p5), .second, .val (.long p6), .second, .val (.long p7), .second, .val (.long p8), .second] [(.long p2), (.ref th)]))) (fun t k => XS.lloadN X2.here hx rfl (hb hby own_ct_d10) rfl k) ?_
  obtain ⟨T14, h14, X14, e14, W14, st14⟩ := putF X2 hx hZ hown (host := "") (Or.inl w_21) Via.refl e2 F7 F4 (Or.inr ⟨w_22, rfl, hnm⟩) w_5 (ty := .long) (by decide) rfl rfl (g := (mkF m 11 #[rv th, .val (.long p1), .second, .val (.long p2), .second, .val (.long p3), .second, .val (.long p4), .second, .val (.long p5), .second, .val (.long p6), .second, .val (.long p7), .second, .val (.long p8), .second] [(.long p2), (.ref th)])) rfl rfl (hb hby own_ct_d11)
  refine own_go (B := (T14.setTop (mkF m 14 #[rv th, .val (.long p1), .second, .val (.long p2), .second, .val (.long p3), .second, .val (.long p4), .second, .val (.long p5), .second, .val (.long p6), .second, .val (.long p7), .second, .val (.long p8), .second] []))) st14 ?_
  obtain ⟨L14, X14, N14⟩ := own_abs X14 (Fr.snoc X14 N2 g0)
  have F15 : n0 ≤ h14.size := by rw [W14.size]; exact F3
  have F16 := Exa.wr W14 F4
  have F17 := Keep.wr F5 W14 (Or.inl (List.mem_of_getElem? (i := 0) rfl))
  have F18 := Fld.other W14 F6 (Or.inr (slot_ne (t := .long) (t' := .long) (Or.inr w_20) (Or.inr w_22) (by decide) (by decide) (by decide)))
  have F19 := Fld.same W14 F7
  have F20 := Fld.other W14 F8 (Or.inr (slot_ne (t := .long) (t' := .long) (Or.inr w_24) (Or.inr w_22) (by decide) (by decide) (by decide)))
  have F21 := Fld.other W14 F9 (Or.inr (slot_ne (t := .long) (t' := .long) (Or.inr w_26) (Or.inr w_22) (by decide) (by decide) (by decide)))
  have F22 := Fld.other W14 F10 (Or.inr (slot_ne (t := .long) (t' := .long) (Or.inr w_28) (Or.inr w_22) (by decide) (by decide) (by decide)))
  have F23 := Fld.other W14 F11 (Or.inr (slot_ne (t := .long) (t' := .long) (Or.inr w_30) (Or.inr w_22) (by decide) (by decide) (by decide)))
  have F24 := Fld.other W14 F12 (Or.inr (slot_ne (t := .long) (t' := .long) (Or.inr w_32) (Or.inr w_22) (by decide) (by decide) (by decide)))
  have F25 := Fld.other W14 F13 (Or.inr (slot_ne (t := .long) (t' := .long) (Or.inr w_34) (Or.inr w_22) (by decide) (by decide) (by decide)))
  refine own_go (B := (T14.setTop (mkF m 15 #[rv th, .val (.long p1), .second, .val (.long p2), .second, .val (.long p3), .second, .val (.long p4), .second, .val (.long p5), .second, .val (.long p6), .second, .val (.long p7), .second, .val (.long p8), .second] [(.ref th)]))) (fun t k => XS.aloadN X14.here hx rfl (hb hby own_ct_d14) rfl rfl k) ?_
  refine own_go (B := (T14.setTop (mkF m 17 #[rv th, .val (.long p1), .second, .val (.long p2), .second, .val (.long p3), .second, .val (.long p4), .second, .val (.long p5), .second, .val (.long p6), .second, .val (.long p7), .second, .val (.long p8), .second] [(.long p3), (.ref th)]))) (fun t k => XS.lload X14.here hx rfl (hb hby own_ct_d15) rfl k) ?_
  obtain ⟨T26, h26, X26, e26, W26, st26⟩ := putF X14 hx hZ hown (host := "") (Or.inl w_23) Via.refl e14 F20 F16 (Or.inr ⟨w_24, rfl, hnm⟩) w_5 (ty := .long) (by decide) rfl rfl (g := (mkF m 17 #[rv th, .val (.long p1), .second, .val (.long p2), .second, .val (.long p3), .second, .val (.long p4), .second, .val (.long p5), .second, .val (.long p6), .second, .val (.long p7), .second, .val (.long p8), .second] [(.long p3), (.ref th)])) rfl rfl (hb hby own_ct_d17)
  refine own_go (B := (T26.setTop (mkF m 20 #[rv th, .val (.long p1), .second, .val (.long p2), .second, .val (.long p3), .second, .val (.long p4), .second, .val (.long p5), .second, .val (.long p6), .second, .val (.long p7), .second, .val (.long p8), .second] []))) st26 ?_
  obtain ⟨L26, X26, N26⟩ := own_abs X26 (Fr.snoc X26 N14 g0)
  have F27 : n0 ≤ h26.size := by rw [W26.size]; exact F15
  have F28 := Exa.wr W26 F16
  have F29 := Keep.wr F17 W26 (Or.inl (List.mem_of_getElem? (i := 0) rfl))
  have F30 := Fld.other W26 F18 (Or.inr (slot_ne (t := .long) (t' := .long) (Or.inr w_20) (Or.inr w_24) (by decide) (by decide) (by decide)))
  have F31 := Fld.other W26 F19 (Or.inr (slot_ne (t := .long) (t' := .long) (Or.inr w_22) (Or.inr w_24) (by decide) (by decide) (by decide)))
  have F32 := Fld.same W26 F20
  have F33 := Fld.other W26 F21 (Or.inr (slot_ne (t := .long) (t' := .long) (Or.inr w_26) (Or.inr w_24) (by decide) (by decide) (by decide)))
  have F34 := Fld.other W26 F22 (Or.inr (slot_ne (t := .long) (t' := .long) (Or.inr w_28) (Or.inr w_24) (by decide) (by decide) (by decide)))
  have F35 := Fld.other W26 F23 (Or.inr (slot_ne (t := .long) (t' := .long) (Or.inr w_30) (Or.inr w_24) (by decide) (by decide) (by decide)))
  have F36 := Fld.other W26 F24 (Or.inr (slot_ne (t := .long) (t' := .long) (Or.inr w_32) (Or.inr w_24) (by decide) (by decide) (by decide)))
  have F37 := Fld.other W26 F25 (Or.inr (slot_ne (t := .long) (t' := .long) (Or.inr w_34) (Or.inr w_24) (by decide) (by decide) (by decide)))
  refine own_go (B := (T26.setTop (mkF m 21 #[rv th, .val (.long p1), .second, .val (.long p2), .second, .val (.long p3), .second, .val (.long p4), .second, .val (.long p5), .second, .val (.long p6), .second, .val (.long p7), .second, .val (.long p8), .second] [(.ref th)]))) (fun t k => XS.aloadN X26.here hx rfl (hb hby own_ct_d20) rfl rfl k) ?_
  refine own_go (B := (T26.setTop (mkF m 23 #[rv th, .val (.long p1), .second, .val (.long p2), .second, .val (.long p3), .second, .val (.long p4), .second, .val (.long p5), .second, .val (.long p6), .second, .val (.long p7), .second, .val (.long p8), .second] [(.long p4), (.ref th)]))) (fun t k => XS.lload X26.here hx rfl (hb hby own_ct_d21) rfl k) ?_
  obtain ⟨T38, h38, X38, e38, W38, st38⟩ := putF X26 hx hZ hown (host := "") (Or.inl w_25) Via.refl e26 F33 F28 (Or.inr ⟨w_26, rfl, hnm⟩) w_5 (ty := .long) (by decide) rfl rfl (g := (mkF m 23 #[rv th, .val (.long p1), .second, .val (.long p2), .second, .val (.long p3), .second, .val (.long p4), .second, .val (.long p5), .second, .val (.long p6), .second, .val (.long p7), .second, .val (.long p8), .second] [(.long p4), (.ref th)])) rfl rfl (hb hby own_ct_d23)
  refine own_go (B := (T38.setTop (mkF m 26 #[rv th, .val (.long p1), .second, .val (.long p2), .second, .val (.long p3), .second, .val (.long p4), .second, .val (.long p5), .second, .val (.long p6), .second, .val (.long p7), .second, .val (.long p8), .second] []))) st38 ?_
  obtain ⟨L38, X38, N38⟩ := own_abs X38 (Fr.snoc X38 N26 g0)
  have F39 : n0 ≤ h38.size := by rw [W38.size]; exact F27
  have F40 := Exa.wr W38 F28
  have F41 := Keep.wr F29 W38 (Or.inl (List.mem_of_getElem? (i := 0) rfl))
  have F42 := Fld.other W38 F30 (Or.inr (slot_ne (t := .long) (t' := .long) (Or.inr w_20) (Or.inr w_26) (by decide) (by decide) (by decide)))
  have F43 := Fld.other W38 F31 (Or.inr (slot_ne (t := .long) (t' := .long) (Or.inr w_22) (Or.inr w_26) (by decide) (by decide) (by decide)))
  have F44 := Fld.other W38 F32 (Or.inr (slot_ne (t := .long) (t' := .long) (Or.inr w_24) (Or.inr w_26) (by decide) (by decide) (by decide)))
  have F45 := Fld.same W38 F33
  have F46 := Fld.other W38 F34 (Or.inr (slot_ne (t := .long) (t' := .long) (Or.inr w_28) (Or.inr w_26) (by decide) (by decide) (by decide)))
  have F47 := Fld.other W38 F35 (Or.inr (slot_ne (t := .long) (t' := .long) (Or.inr w_30) (Or.inr w_26) (by decide) (by decide) (by decide)))
  have F48 := Fld.other W38 F36 (Or.inr (slot_ne (t := .long) (t' := .long) (Or.inr w_32) (Or.inr w_26) (by decide) (by decide) (by decide)))
  have F49 := Fld.other W38 F37 (Or.inr (slot_ne (t := .long) (t' := .long) (Or.inr w_34) (Or.inr w_26) (by decide) (by decide) (by decide)))
  refine own_go (B := (T38.setTop (mkF m 27 #[rv th, .val (.long p1), .second, .val (.long p2), .second, .val (.long p3), .second, .val (.long p4), .second, .val (.long p5), .second, .val (.long p6), .second, .val (.long p7), .second, .val (.long p8), .second] [(.ref th)]))) (fun t k => XS.aloadN X38.here hx rfl (hb hby own_ct_d26) rfl rfl k) ?_
  refine own_go (B := (T38.setTop (mkF m 29 #[rv th, .val (.long p1), .second, .val (.long p2), .second, .val (.long p3), .second, .val (.long p4), .second, .val (.long p5), .second, .val (.long p6), .second, .val (.long p7), .second, .val (.long p8), .second] [(.long p5), (.ref th)]))) (fun t k => XS.lload X38.here hx rfl (hb hby own_ct_d27) rfl k) ?_
  obtain ⟨T50, h50, X50, e50, W50, st50⟩ := putF X38 hx hZ hown (host := "") (Or.inl w_27) Via.refl e38 F46 F40 (Or.inr ⟨w_28, rfl, hnm⟩) w_5 (ty := .long) (by decide) rfl rfl (g := (mkF m 29 #[rv th, .val (.long p1), .second, .val (.long p2), .second, .val (.long p3), .second, .val (.long p4), .second, .val (.long p5), .second, .val (.long p6), .second, .val (.long p7), .second, .val (.long p8), .second] [(.long p5), (.ref th)])) rfl rfl (hb hby own_ct_d29)
  refine own_go (B := (T50.setTop (mkF m 32 #[rv th, .val (.long p1), .second, .val (.long p2), .second, .val (.long p3), .second, .val (.long p4), .second, .val (.long p5), .second, .val (.long p6), .second, .val (.long p7), .second, .val (.long p8), .second] []))) st50 ?_
  obtain ⟨L50, X50, N50⟩ := own_abs X50 (Fr.snoc X50 N38 g0)
  have F51 : n0 ≤ h50.size := by rw [W50.size]; exact F39
  have F52 := Exa.wr W50 F40
  have F53 := Keep.wr F41 W50 (Or.inl (List.mem_of_getElem? (i := 0) rfl))
  have F54 := Fld.other W50 F42 (Or.inr (slot_ne (t := .long) (t' := .long) (Or.inr w_20) (Or.inr w_28) (by decide) (by decide) (by decide)))
  have F55 := Fld.other W50 F43 (Or.inr (slot_ne (t := .long) (t' := .long) (Or.inr w_22) (Or.inr w_28) (by decide) (by decide) (by decide)))
  have F56 := Fld.other W50 F44 (Or.inr (slot_ne (t := .long) (t' := .long) (Or.inr w_24) (Or.inr w_28) (by decide) (by decide) (by decide)))
  have F57 := Fld.other W50 F45 (Or.inr (slot_ne (t := .long) (t' := .long) (Or.inr w_26) (Or.inr w_28) (by decide) (by decide) (by decide)))
  have F58 := Fld.same W50 F46
  have F59 := Fld.other W50 F47 (Or.inr (slot_ne (t := .long) (t' := .long) (Or.inr w_30) (Or.inr w_28) (by decide) (by decide) (by decide)))
  have F60 := Fld.other W50 F48 (Or.inr (slot_ne (t := .long) (t' := .long) (Or.inr w_32) (Or.inr w_28) (by decide) (by decide) (by decide)))
  have F61 := Fld.other W50 F49 (Or.inr (slot_ne (t := .long) (t' := .long) (Or.inr w_34) (Or.inr w_28) (by decide) (by decide) (by decide)))
  refine own_go (B := (T50.setTop (mkF m 33 #[rv th, .val (.long p1), .second, .val (.long p2), .second, .val (.long p3), .second, .val (.long p4), .second, .val (.long p5), .second, .val (.long p6), .second, .val (.long p7), .second, .val (.long p8), .second] [(.ref th)]))) (fun t k => XS.aloadN X50.here hx rfl (hb hby own_ct_d32) rfl rfl k) ?_
  refine own_go (B := (T50.setTop (mkF m 35 #[rv th, .val (.long p1), .second, .val (.long p2), .second, .val (.long p3), .second, .val (.long p4), .second, .val (.long p5), .second, .val (.long p6), .second, .val (.long p7), .second, .val (.long p8), .second] [(.long p6), (.ref th)]))) (fun t k => XS.lload X50.here hx rfl (hb hby own_ct_d33) rfl k) ?_
  obtain ⟨T62, h62, X62, e62, W62, st62⟩ := putF X50 hx hZ hown (host := "") (Or.inl w_29) Via.refl e50 F59 F52 (Or.inr ⟨w_30, rfl, hnm⟩) w_5 (ty := .long) (by decide) rfl rfl (g := (mkF m 35 #[rv th, .val (.long p1), .second, .val (.long p2), .second, .val (.long p3), .second, .val (.long p4), .second, .val (.long p5), .second, .val (.long p6), .second, .val (.long p7), .second, .val (.long p8), .second] [(.long p6), (.ref th)])) rfl rfl (hb hby own_ct_d35)
  refine own_go (B := (T62.setTop (mkF m 38 #[rv th, .val (.long p1), .second, .val (.long p2), .second, .val (.long p3), .second, .val (.long p4), .second, .val (.long p5), .second, .val (.long p6), .second, .val (.long p7), .second, .val (.long p8), .second] []))) st62 ?_
  obtain ⟨L62, X62, N62⟩ := own_abs X62 (Fr.snoc X62 N50 g0)
  have F63 : n0 ≤ h62.size := by rw [W62.size]; exact F51
  have F64 := Exa.wr W62 F52
  have F65 := Keep.wr F53 W62 (Or.inl (List.mem_of_getElem? (i := 0) rfl))
  have F66 := Fld.other W62 F54 (Or.inr (slot_ne (t := .long) (t' := .long) (Or.inr w_20) (Or.inr w_30) (by decide) (by decide) (by decide)))
  have F67 := Fld.other W62 F55 (Or.inr (slot_ne (t := .long) (t' := .long) (Or.inr w_22) (Or.inr w_30) (by decide) (by decide) (by decide)))
  have F68 := Fld.other W62 F56 (Or.inr (slot_ne (t := .long) (t' := .long) (Or.inr w_24) (Or.inr w_30) (by decide) (by decide) (by decide)))
  have F69 := Fld.other W62 F57 (Or.inr (slot_ne (t := .long) (t' := .long) (Or.inr w_26) (Or.inr w_30) (by decide) (by decide) (by decide)))
  have F70 := Fld.other W62 F58 (Or.inr (slot_ne (t := .long) (t' := .long) (Or.inr w_28) (Or.inr w_30) (by decide) (by decide) (by decide)))
  have F71 := Fld.same W62 F59
  have F72 := Fld.other W62 F60 (Or.inr (slot_ne (t := .long) (t' := .long) (Or.inr w_32) (Or.inr w_30) (by decide) (by decide) (by decide)))
  have F73 := Fld.other W62 F61 (Or.inr (slot_ne (t := .long) (t' := .long) (Or.inr w_34) (Or.inr w_30) (by decide) (by decide) (by decide)))
  refine own_go (B := (T62.setTop (mkF m 39 #[rv th, .val (.long p1), .second, .val (.long p2), .second, .val (.long p3), .second, .val (.long p4), .second, .val (.long p5), .second, .val (.long p6), .second, .val (.long p7), .second, .val (.long p8), .second] [(.ref th)]))) (fun t k => XS.aloadN X62.here hx rfl (hb hby own_ct_d38) rfl rfl k) ?_
  refine own_go (B := (T62.setTop (mkF m 41 #[rv th, .val (.long p1), .second, .val (.long p2), .second, .val (.long p3), .second, .val (.long p4), .second, .val (.long p5), .second, .val (.long p6), .second, .val (.long p7), .second, .val (.long p8), .second] [(.long p7), (.ref th)]))) (fun t k => XS.lload X62.here hx rfl (hb hby own_ct_d39) rfl k) ?_
  obtain ⟨T74, h74, X74, e74, W74, st74⟩ := putF X62 hx hZ hown (host := "") (Or.inl w_31) Via.refl e62 F72 F64 (Or.inr ⟨w_32, rfl, hnm⟩) w_5 (ty := .long) (by decide) rfl rfl (g := (mkF m 41 #[rv th, .val (.long p1), .second, .val (.long p2), .second, .val (.long p3), .second, .val (.long p4), .second, .val (.long p5), .second, .val (.long p6), .second, .val (.long p7), .second, .val (.long p8), .second] [(.long p7), (.ref th)])) rfl rfl (hb hby own_ct_d41)
  refine own_go (B := (T74.setTop (mkF m 44 #[rv th, .val (.long p1), .second, .val (.long p2), .second, .val (.long p3), .second, .val (.long p4), .second, .val (.long p5), .second, .val (.long p6), .second, .val (.long p7), .second, .val (.long p8), .second] []))) st74 ?_
  obtain ⟨L74, X74, N74⟩ := own_abs X74 (Fr.snoc X74 N62 g0)
  have F75 : n0 ≤ h74.size := by rw [W74.size]; exact F63
  have F76 := Exa.wr W74 F64
  have F77 := Keep.wr F65 W74 (Or.inl (List.mem_of_getElem? (i := 0) rfl))
  have F78 := Fld.other W74 F66 (Or.inr (slot_ne (t := .long) (t' := .long) (Or.inr w_20) (Or.inr w_32) (by decide) (by decide) (by decide)))
  have F79 := Fld.other W74 F67 (Or.inr (slot_ne (t := .long) (t' := .long) (Or.inr w_22) (Or.inr w_32) (by decide) (by decide) (by decide)))
  have F80 := Fld.other W74 F68 (Or.inr (slot_ne (t := .long) (t' := .long) (Or.inr w_24) (Or.inr w_32) (by decide) (by decide) (by decide)))
  have F81 := Fld.other W74 F69 (Or.inr (slot_ne (t := .long) (t' := .long) (Or.inr w_26) (Or.inr w_32) (by decide) (by decide) (by decide)))
  have F82 := Fld.other W74 F70 (Or.inr (slot_ne (t := .long) (t' := .long) (Or.inr w_28) (Or.inr w_32) (by decide) (by decide) (by decide)))
  have F83 := Fld.other W74 F71 (Or.inr (slot_ne (t := .long) (t' := .long) (Or.inr w_30) (Or.inr w_32) (by decide) (by decide) (by decide)))
  have F84 := Fld.same W74 F72
  have F85 := Fld.other W74 F73 (Or.inr (slot_ne (t := .long) (t' := .long) (Or.inr w_34) (Or.inr w_32) (by decide) (by decide) (by decide)))
  refine own_go (B := (T74.setTop (mkF m 45 #[rv th, .val (.long p1), .second, .val (.long p2), .second, .val (.long p3), .second, .val (.long p4), .second, .val (.long p5), .second, .val (.long p6), .second, .val (.long p7), .second, .val (.long p8), .second] [(.ref th)]))) (fun t k => XS.aloadN X74.here hx rfl (hb hby own_ct_d44) rfl rfl k) ?_
  refine own_go (B := (T74.setTop (mkF m 47 #[rv th, .val (.long p1), .second, .val (.long p2), .second, .val (.long p3), .second, .val (.long p4), .second, .val (.long p5), .second, .val (.long p6), .second, .val (.long p7), .second, .val (.long p8), .second] [(.long p8), (.ref th)]))) (fun t k => XS.lload X74.here hx rfl (hb hby own_ct_d45) rfl k) ?_
  obtain ⟨T86, h86, X86, e86, W86, st86⟩ := putF X74 hx hZ hown (host := "") (Or.inl w_33) Via.refl e74 F85 F76 (Or.inr ⟨w_34, rfl, hnm⟩) w_5 (ty := .long) (by decide) rfl rfl (g := (mkF m 47 #[rv th, .val (.long p1), .second, .val (.long p2), .second, .val (.long p3), .second, .val (.long p4), .second, .val (.long p5), .second, .val (.long p6), .second, .val (.long p7), .second, .val (.long p8), .second] [(.long p8), (.ref th)])) rfl rfl (hb hby own_ct_d47)
  refine own_go (B := (T86.setTop (mkF m 50 #[rv th, .val (.long p1), .second, .val (.long p2), .second, .val (.long p3), .second, .val (.long p4), .second, .val (.long p5), .second, .val (.long p6), .second, .val (.long p7), .second, .val (.long p8), .second] []))) st86 ?_
  obtain ⟨L86, X86, N86⟩ := own_abs X86 (Fr.snoc X86 N74 g0)
  have F87 : n0 ≤ h86.size := by rw [W86.size]; exact F75
  have F88 := Exa.wr W86 F76
  have F89 := Keep.wr F77 W86 (Or.inl (List.mem_of_getElem? (i := 0) rfl))
  have F90 := Fld.other W86 F78 (Or.inr (slot_ne (t := .long) (t' := .long) (Or.inr w_20) (Or.inr w_34) (by decide) (by decide) (by decide)))
  have F91 := Fld.other W86 F79 (Or.inr (slot_ne (t := .long) (t' := .long) (Or.inr w_22) (Or.inr w_34) (by decide) (by decide) (by decide)))
  have F92 := Fld.other W86 F80 (Or.inr (slot_ne (t := .long) (t' := .long) (Or.inr w_24) (Or.inr w_34) (by decide) (by decide) (by decide)))
  have F93 := Fld.other W86 F81 (Or.inr (slot_ne (t := .long) (t' := .long) (Or.inr w_26) (Or.inr w_34) (by decide) (by decide) (by decide)))
  have F94 := Fld.other W86 F82 (Or.inr (slot_ne (t := .long) (t' := .long) (Or.inr w_28) (Or.inr w_34) (by decide) (by decide) (by decide)))
  have F95 := Fld.other W86 F83 (Or.inr (slot_ne (t := .long) (t' := .long) (Or.inr w_30) (Or.inr w_34) (by decide) (by decide) (by decide)))
  have F96 := Fld.other W86 F84 (Or.inr (slot_ne (t := .long) (t' := .long) (Or.inr w_32) (Or.inr w_34) (by decide) (by decide) (by decide)))
  have F97 := Fld.same W86 F85
  exact own_retV X86 hx hlk Bd.returns (hb hby own_ct_d50) (own_b rfl) (own_b rfl) (Q := (own_ct_Q Z th p1 p2 p3 p4 p5 p6 p7 p8 h0 n0)) (by rw [e86]; exact ⟨rfl, N86, F89, F88, F90, F91, F92, F93, F94, F95, F96, F97⟩)

theorem own_mk_d0 : decode method_2_code 0 = .ok (.new 7, 3) := by decide +kernel
theorem own_mk_d3 : decode method_2_code 3 = .ok (.dup, 1) := by decide +kernel
theorem own_mk_d4 : decode method_2_code 4 = .ok (.lload_n 0, 1) := by decide +kernel
theorem own_mk_d5 : decode method_2_code 5 = .ok (.lload_n 0, 1) := by decide +kernel
theorem own_mk_d6 : decode method_2_code 6 = .ok (.ldc2_w 9, 3) := by decide +kernel
theorem own_mk_d9 : decode method_2_code 9 = .ok (.lxor, 1) := by decide +kernel
theorem own_mk_d10 : decode method_2_code 10 = .ok (.lload_n 0, 1) := by decide +kernel
theorem own_mk_d11 : decode method_2_code 11 = .ok (.iconst 1, 1) := by decide +kernel
theorem own_mk_d12 : decode method_2_code 12 = .ok (.lushr, 1) := by decide +kernel
theorem own_mk_d13 : decode method_2_code 13 = .ok (.lload_n 0, 1) := by decide +kernel
theorem own_mk_d14 : decode method_2_code 14 = .ok (.lneg, 1) := by decide +kernel
theorem own_mk_d15 : decode method_2_code 15 = .ok (.lload 4, 2) := by decide +kernel
theorem own_mk_d17 : decode method_2_code 17 = .ok (.lload_n 0, 1) := by decide +kernel
theorem own_mk_d18 : decode method_2_code 18 = .ok (.lload_n 2, 1) := by decide +kernel
theorem own_mk_d19 : decode method_2_code 19 = .ok (.lxor, 1) := by decide +kernel
theorem own_mk_d20 : decode method_2_code 20 = .ok (.lload_n 2, 1) := by decide +kernel
theorem own_mk_d21 : decode method_2_code 21 = .ok (.lload_n 0, 1) := by decide +kernel
theorem own_mk_d22 : decode method_2_code 22 = .ok (.lload 4, 2) := by decide +kernel
theorem own_mk_d24 : decode method_2_code 24 = .ok (.ladd, 1) := by decide +kernel
theorem own_mk_d25 : decode method_2_code 25 = .ok (.invokespecial 11, 3) := by decide +kernel
theorem own_mk_d28 : decode method_2_code 28 = .ok (.areturn, 1) := by decide +kernel
theorem own_mk_pn : plainName "com/example/sluicegate/sluicegate/stat/WindowStatisticsAverageResponseMillisPinLaw" = true := by first | (simp [plainName, overriddenIn]; done) | decide +kernel
theorem own_mk_ef (m : MethodId) (po : Int64) (pt : Int64) (pk : Int64) : entryFrame m #[(.long po), (.long pt), (.long pk)] 6 = mkF m 0 #[.val (.long po), .second, .val (.long pt), .second, .val (.long pk), .second] [] := by first | (simp [entryFrame, mkF, argsToLocals, Value.category]; done) | rfl
def own_mk_Q (Z : State) (po : Int64) (pt : Int64) (pk : Int64) (h0 : Heap) (n0 : Nat) (v : Option Value) (h : Heap) (L : List Loc) : Prop := ∃ a, v = some (.ref a) ∧ Fr n0 L ∧ Keep h0 h [] ∧ Exa Z h a "com/example/sluicegate/sluicegate/stat/WindowStatistics" ∧ Fld Z h a "com/example/sluicegate/sluicegate/stat/WindowStatistics" "completed" "J" (.long pk) ∧ Fld Z h a "com/example/sluicegate/sluicegate/stat/WindowStatistics" "totalResponseMillis" "J" (.long pt)
set_option maxRecDepth 65536 in
set_option maxHeartbeats 40000000 in
theorem own_mk (l : Launch) (Z : State) (a0 : Array Value) (hw : ∀ d ∈ tables_1, d.before a0 Z = true) (ws : List Jvm.Cond) (po : Int64) (pt : Int64) (pk : Int64) (h0 : Heap) (n0 : Nat) (Z0 : n0 ≤ h0.size) :
    MetFree l own_y3 (head1 (Jvm.Cond.code own_y3 method_2_code 6 (some (.object "com/example/sluicegate/sluicegate/stat/WindowStatistics")) :: ws) ({ frames := 3, cells := 1, slots := 8, locals := 53 } : Room)) (fun a U => a = #[(.long po), (.long pt), (.long pk)] ∧ Z.Warmed39 U.vm ∧ U.heap = h0) (fun _ _ _ _ _ => True) (fun _ U o U' => ∃ v L, o = .returned v ∧ (own_mk_Q Z po pt pk h0 n0) v U'.heap L ∧ FrameEnd U o U' L ({ frames := 3, cells := 1, slots := 8, locals := 53 } : Room).cells ({ frames := 3, cells := 1, slots := 8, locals := 53 } : Room).slots) := by
  refine MetFree.of_bodySF (plainFor_of_name own_mk_pn) hisR ?_
  intro p e s m args below meth c s₁ Bd hml0 hP hK
  obtain ⟨rfl, hZ, hh⟩ := hP
  have hx := Bd.exec
  have hby := Bd.bytes
  have hml : c.maxLocals = 6 := hml0
  have hown : s.vm.findClass "com/example/sluicegate/sluicegate/stat/WindowStatisticsAverageResponseMillisPinLaw" = some m.cls := findClass_of_methodNamed Bd.named
  have hnm := (name_of_methodNamed Bd.named Bd.method).1
  have hlk : meth.locks = false := Bd.notSynchronized
  have X0 : Stand p l e ({ frames := 3, cells := 1, slots := 8, locals := 53 } : Room) s m #[(.long po), (.long pt), (.long pk)] below meth c s₁ [] 0 0 := Stand.of_body Bd
  have e0 : s₁.heap = h0 := by rw [← hh, Bd.state]; rfl
  have N0 := Fr.nil n0
  have w_4 := hw _ (List.mem_of_getElem? (l := tables_1) (i := 4) rfl)
  have w_5 := hw _ (List.mem_of_getElem? (l := tables_1) (i := 5) rfl)
  have w_6 := hw _ (List.mem_of_getElem? (l := tables_1) (i := 6) rfl)
  have w_7 := hw _ (List.mem_of_getElem? (l := tables_1) (i := 7) rfl)
  have w_8 := hw _ (List.mem_of_getElem? (l := tables_1) (i := 8) rfl)
  have w_9 := hw _ (List.mem_of_getElem? (l := tables_1) (i := 9) rfl)
  have w_10 := hw _ (List.mem_of_getElem? (l := tables_1) (i := 10) rfl)
  have w_20 := hw _ (List.mem_of_getElem? (l := tables_1) (i := 20) rfl)
  have w_22 := hw _ (List.mem_of_getElem? (l := tables_1) (i := 22) rfl)
  have w_24 := hw _ (List.mem_of_getElem? (l := tables_1) (i := 24) rfl)
  have w_26 := hw _ (List.mem_of_getElem? (l := tables_1) (i := 26) rfl)
  have w_28 := hw _ (List.mem_of_getElem? (l := tables_1) (i := 28) rfl)
  have w_30 := hw _ (List.mem_of_getElem? (l := tables_1) (i := 30) rfl)
  have w_32 := hw _ (List.mem_of_getElem? (l := tables_1) (i := 32) rfl)
  have w_34 := hw _ (List.mem_of_getElem? (l := tables_1) (i := 34) rfl)
  show own_G p.tables e below (fun o U' => ∃ v L, o = .returned v ∧ (own_mk_Q Z po pt pk h0 n0) v U'.heap L ∧ FrameEnd s o U' L ({ frames := 3, cells := 1, slots := 8, locals := 53 } : Room).cells ({ frames := 3, cells := 1, slots := 8, locals := 53 } : Room).slots) (s₁.setTop (entryFrame m #[(.long po), (.long pt), (.long pk)] 6))
  refine own_go (B := s₁.setTop (mkF m 0 #[.val (.long po), .second, .val (.long pt), .second, .val (.long pk), .second] [])) (fun t k => castTop (own_mk_ef m po pt pk) k) ?_
  have K0 := Keep.refl h0 []
  obtain ⟨T1, h1, X1, e1, E1, A1, D1, U1, st1⟩ := newO X0 hx hZ hown w_4 w_5 w_6 e0 (g := (mkF m 0 #[.val (.long po), .second, .val (.long pt), .second, .val (.long pk), .second] [])) rfl (hb hby own_mk_d0) (own_b rfl) (own_b rfl)
  obtain ⟨a1, ga1⟩ : ∃ z, z = h0.size := ⟨_, rfl⟩
  rw [← ga1] at A1 D1 U1 st1
  refine own_go (B := (T1.setTop (mkF m 3 #[.val (.long po), .second, .val (.long pt), .second, .val (.long pk), .second] [(.ref a1)]))) st1 ?_
  have Z2 : n0 ≤ h1.size := Nat.le_trans Z0 E1.1
  have K3 := Keep.ext K0 E1
  have gn1 : n0 ≤ a1 := Nat.le_trans Z0 (Nat.le_of_eq ga1.symm)
  have F4 : Fld Z h1 a1 "com/example/sluicegate/sluicegate/stat/WindowStatistics" "startMillis" "J" (.long (0 : Int64)) := D1 (Or.inr w_20) (ty := .long) (by decide)
  have F5 : Fld Z h1 a1 "com/example/sluicegate/sluicegate/stat/WindowStatistics" "lengthMillis" "J" (.long (0 : Int64)) := D1 (Or.inr w_22) (ty := .long) (by decide)
  have F6 : Fld Z h1 a1 "com/example/sluicegate/sluicegate/stat/WindowStatistics" "passed" "J" (.long (0 : Int64)) := D1 (Or.inr w_24) (ty := .long) (by decide)
  have F7 : Fld Z h1 a1 "com/example/sluicegate/sluicegate/stat/WindowStatistics" "refused" "J" (.long (0 : Int64)) := D1 (Or.inr w_26) (ty := .long) (by decide)
  have F8 : Fld Z h1 a1 "com/example/sluicegate/sluicegate/stat/WindowStatistics" "completed" "J" (.long (0 : Int64)) := D1 (Or.inr w_28) (ty := .long) (by decide)
  have F9 : Fld Z h1 a1 "com/example/sluicegate/sluicegate/stat/WindowStatistics" "errors" "J" (.long (0 : Int64)) := D1 (Or.inr w_30) (ty := .long) (by decide)
  have F10 : Fld Z h1 a1 "com/example/sluicegate/sluicegate/stat/WindowStatistics" "totalResponseMillis" "J" (.long (0 : Int64)) := D1 (Or.inr w_32) (ty := .long) (by decide)
  have F11 : Fld Z h1 a1 "com/example/sluicegate/sluicegate/stat/WindowStatistics" "minResponseMillis" "J" (.long (0 : Int64)) := D1 (Or.inr w_34) (ty := .long) (by decide)
  refine own_go (B := (T1.setTop (mkF m 4 #[.val (.long po), .second, .val (.long pt), .second, .val (.long pk), .second] [(.ref a1), (.ref a1)]))) (fun t k => XS.dup X1.here hx rfl (hb hby own_mk_d3) rfl rfl k) ?_
  refine own_go (B := (T1.setTop (mkF m 5 #[.val (.long po), .second, .val (.long pt), .second, .val (.long pk), .second] [(.long po), (.ref a1), (.ref a1)]))) (fun t k => XS.lloadN X1.here hx rfl (hb hby own_mk_d4) rfl k) ?_
  refine own_go (B := (T1.setTop (mkF m 6 #[.val (.long po), .second, .val (.long pt), .second, .val (.long pk), .second] [(.long po), (.long po), (.ref a1), (.ref a1)]))) (fun t k => XS.lloadN X1.here hx rfl (hb hby own_mk_d5) rfl k) ?_
  have lc12 := X1.ldc2Long hx hown (v := (-1 : Int64)) (mvT hZ w_7) (g := (mkF m 6 #[.val (.long po), .second, .val (.long pt), .second, .val (.long pk), .second] [(.long po), (.long po), (.ref a1), (.ref a1)])) rfl (hb hby own_mk_d6)
  refine own_go (B := (T1.setTop (mkF m 9 #[.val (.long po), .second, .val (.long pt), .second, .val (.long pk), .second] [(.long (-1 : Int64)), (.long po), (.long po), (.ref a1), (.ref a1)]))) lc12 ?_
  refine own_go (B := (T1.setTop (mkF m 10 #[.val (.long po), .second, .val (.long pt), .second, .val (.long pk), .second] [(.long (po ^^^ (-1 : Int64))), (.long po), (.ref a1), (.ref a1)]))) (fun t k => XS.lxor (x := po) (y := (-1 : Int64)) X1.here hx rfl (hb hby own_mk_d9) rfl k) ?_
  refine own_go (B := (T1.setTop (mkF m 11 #[.val (.long po), .second, .val (.long pt), .second, .val (.long pk), .second] [(.long po), (.long (po ^^^ (-1 : Int64))), (.long po), (.ref a1), (.ref a1)]))) (fun t k => XS.lloadN X1.here hx rfl (hb hby own_mk_d10) rfl k) ?_
  refine own_go (B := (T1.setTop (mkF m 12 #[.val (.long po), .second, .val (.long pt), .second, .val (.long pk), .second] [(.int (1 : Int32)), (.long po), (.long (po ^^^ (-1 : Int64))), (.long po), (.ref a1), (.ref a1)]))) (fun t k => own_iconst (v := (1 : Int32)) X1.here hx rfl (hb hby own_mk_d11) (by decide) k) ?_
  refine own_go (B := (T1.setTop (mkF m 13 #[.val (.long po), .second, .val (.long pt), .second, .val (.long pk), .second] [(.long ((po.toUInt64 >>> ((1 : Int32) &&& 0x3f).toInt64.toUInt64).toInt64)), (.long (po ^^^ (-1 : Int64))), (.long po), (.ref a1), (.ref a1)]))) (fun t k => XS.lushr (x := po) (y := (1 : Int32)) X1.here hx rfl (hb hby own_mk_d12) rfl k) ?_
  refine own_go (B := (T1.setTop (mkF m 14 #[.val (.long po), .second, .val (.long pt), .second, .val (.long pk), .second] [(.long po), (.long ((po.toUInt64 >>> ((1 : Int32) &&& 0x3f).toInt64.toUInt64).toInt64)), (.long (po ^^^ (-1 : Int64))), (.long po), (.ref a1), (.ref a1)]))) (fun t k => XS.lloadN X1.here hx rfl (hb hby own_mk_d13) rfl k) ?_
  refine own_go (B := (T1.setTop (mkF m 15 #[.val (.long po), .second, .val (.long pt), .second, .val (.long pk), .second] [(.long (-po)), (.long ((po.toUInt64 >>> ((1 : Int32) &&& 0x3f).toInt64.toUInt64).toInt64)), (.long (po ^^^ (-1 : Int64))), (.long po), (.ref a1), (.ref a1)]))) (fun t k => XS.lneg X1.here hx rfl (hb hby own_mk_d14) rfl k) ?_
  refine own_go (B := (T1.setTop (mkF m 17 #[.val (.long po), .second, .val (.long pt), .second, .val (.long pk), .second] [(.long pk), (.long (-po)), (.long ((po.toUInt64 >>> ((1 : Int32) &&& 0x3f).toInt64.toUInt64).toInt64)), (.long (po ^^^ (-1 : Int64))), (.long po), (.ref a1), (.ref a1)]))) (fun t k => XS.lload X1.here hx rfl (hb hby own_mk_d15) rfl k) ?_
  refine own_go (B := (T1.setTop (mkF m 18 #[.val (.long po), .second, .val (.long pt), .second, .val (.long pk), .second] [(.long po), (.long pk), (.long (-po)), (.long ((po.toUInt64 >>> ((1 : Int32) &&& 0x3f).toInt64.toUInt64).toInt64)), (.long (po ^^^ (-1 : Int64))), (.long po), (.ref a1), (.ref a1)]))) (fun t k => XS.lloadN X1.here hx rfl (hb hby own_mk_d17) rfl k) ?_
  refine own_go (B := (T1.setTop (mkF m 19 #[.val (.long po), .second, .val (.long pt), .second, .val (.long pk), .second] [(.long pt), (.long po), (.long pk), (.long (-po)), (.long ((po.toUInt64 >>> ((1 : Int32) &&& 0x3f).toInt64.toUInt64).toInt64)), (.long (po ^^^ (-1 : Int64))), (.long po), (.ref a1), (.ref a1)]))) (fun t k => XS.lloadN X1.here hx rfl (hb hby own_mk_d18) rfl k) ?_
  refine own_go (B := (T1.setTop (mkF m 20 #[.val (.long po), .second, .val (.long pt), .second, .val (.long pk), .second] [(.long (po ^^^ pt)), (.long pk), (.long (-po)), (.long ((po.toUInt64 >>> ((1 : Int32) &&& 0x3f).toInt64.toUInt64).toInt64)), (.long (po ^^^ (-1 : Int64))), (.long po), (.ref a1), (.ref a1)]))) (fun t k => XS.lxor (x := po) (y := pt) X1.here hx rfl (hb hby own_mk_d19) rfl k) ?_
  refine own_go (B := (T1.setTop (mkF m 21 #[.val (.long po), .second, .val (.long pt), .second, .val (.long pk), .second] [(.long pt), (.long (po ^^^ pt)), (.long pk), (.long (-po)), (.long ((po.toUInt64 >>> ((1 : Int32) &&& 0x3f).toInt64.toUInt64).toInt64)), (.long (po ^^^ (-1 : Int64))), (.long po), (.ref a1), (.ref a1)]))) (fun t k => XS.lloadN X1.here hx rfl (hb hby own_mk_d20) rfl k) ?_
  refine own_go (B := (T1.setTop (mkF m 22 #[.val (.long po), .second, .val (.long pt), .second, .val (.long pk), .second] [(.long po), (.long pt), (.long (po ^^^ pt)), (.long pk), (.long (-po)), (.long ((po.toUInt64 >>> ((1 : Int32) &&& 0x3f).toInt64.toUInt64).toInt64)), (.long (po ^^^ (-1 : Int64))), (.long po), (.ref a1), (.ref a1)]))) (fun t k => XS.lloadN X1.here hx rfl (hb hby own_mk_d21) rfl k) ?_
  refine own_go (B := (T1.setTop (mkF m 24 #[.val (.long po), .second, .val (.long pt), .second, .val (.long pk), .second] [(.long pk), (.long po), (.long pt), (.long (po ^^^ pt)), (.long pk), (.long (-po)), (.long ((po.toUInt64 >>> ((1 : Int32) &&& 0x3f).toInt64.toUInt64).toInt64)), (.long (po ^^^ (-1 : Int64))), (.long po), (.ref a1), (.ref a1)]))) (fun t k => XS.lload X1.here hx rfl (hb hby own_mk_d22) rfl k) ?_
  refine own_go (B := (T1.setTop (mkF m 25 #[.val (.long po), .second, .val (.long pt), .second, .val (.long pk), .second] [(.long (po + pk)), (.long pt), (.long (po ^^^ pt)), (.long pk), (.long (-po)), (.long ((po.toUInt64 >>> ((1 : Int32) &&& 0x3f).toInt64.toUInt64).toInt64)), (.long (po ^^^ (-1 : Int64))), (.long po), (.ref a1), (.ref a1)]))) (fun t k => XS.ladd (x := po) (y := pk) X1.here hx rfl (hb hby own_mk_d24) rfl k) ?_
  obtain ⟨_, _, ⟨T13, L13, k13, n13⟩, -, X13, ⟨Lc13, hQ13, l13, yy13, zz13⟩, st13⟩ := X1.specialBack hx (y := own_y2) rfl hown (mvT hZ w_8) (mvT hZ w_9) (mvT hZ w_10) (by decide) (backOf (W := 1) (own_ct l Z a0 hw [] a1 po (po ^^^ (-1 : Int64)) ((po.toUInt64 >>> ((1 : Int32) &&& 0x3f).toInt64.toUInt64).toInt64) (-po) pk (po ^^^ pt) pt (po + pk) h1 n0 Z2 A1 gn1 F4 F5 F6 F7 F8 F9 F10 F11) hZ w_10 w_6 (by decide) (by decide)) (g := (mkF m 25 #[.val (.long po), .second, .val (.long pt), .second, .val (.long pk), .second] [(.long (po + pk)), (.long pt), (.long (po ^^^ pt)), (.long pk), (.long (-po)), (.long ((po.toUInt64 >>> ((1 : Int32) &&& 0x3f).toInt64.toUInt64).toInt64)), (.long (po ^^^ (-1 : Int64))), (.long po), (.ref a1), (.ref a1)])) rfl (by rw [hml]; rfl) (Steps.refl _) (a := a1) (argsL := [(.long po), (.long (po ^^^ (-1 : Int64))), (.long ((po.toUInt64 >>> ((1 : Int32) &&& 0x3f).toInt64.toUInt64).toInt64)), (.long (-po)), (.long pk), (.long (po ^^^ pt)), (.long pt), (.long (po + pk))]) (rest := [(.ref a1)]) (lenOf own_pd2 rfl) rfl (by show 2 * 0 + _ ≤ _; exact own_b rfl) (hb hby own_mk_d25) (fun _ _ => ⟨rfl, e1, (own_b rfl : 1 + 0 ≤ _), (own_b rfl : 8 + 0 ≤ _)⟩)
  dsimp only [Pt.U, Pt.locs, Pt.cells, Pt.slots] at X13 l13 yy13 zz13 st13 hQ13
  obtain ⟨rfl, Nq13, K13, Ex13, g0_13, g1_13, g2_13, g3_13, g4_13, g5_13, g6_13, g7_13⟩ := hQ13
  obtain ⟨L13, X13, N13⟩ := own_absC (K := 1) (K' := 8) X13 l13 yy13 zz13 N0 Nq13
  have F14 : n0 ≤ T13.heap.size := Nat.le_trans Z2 K13.1
  have F15 := Keep.trans K3 K13 (allS (Or.inr (Nat.le_trans K0.1 (Nat.le_of_eq ga1.symm))) all0)
  have F16 := Exa.keep A1 K13
  refine own_tr (B := (T13.setTop (mkF m 28 #[.val (.long po), .second, .val (.long pt), .second, .val (.long pk), .second] [(.ref a1)]))) st13 ?_
  exact own_retA X13 hx hlk Bd.returns rfl rfl (hb hby own_mk_d28) (own_b rfl) (own_b rfl) (Q := (own_mk_Q Z po pt pk h0 n0)) ⟨a1, rfl, N13, F15, Ex13, g4_13, g6_13⟩

theorem own_av_d0 : decode prog_100_method_2_code 0 = .ok (.aload_n 0, 1) := by decide +kernel
theorem own_av_d1 : decode prog_100_method_2_code 1 = .ok (.getfield 22, 3) := by decide +kernel
theorem own_av_d4 : decode prog_100_method_2_code 4 = .ok (.lconst 0, 1) := by decide +kernel
theorem own_av_d5 : decode prog_100_method_2_code 5 = .ok (.lcmp, 1) := by decide +kernel
theorem own_av_d6 : decode prog_100_method_2_code 6 = .ok (.ifCond .ne 7, 3) := by decide +kernel
theorem own_av_d9 : decode prog_100_method_2_code 9 = .ok (.dconst 0, 1) := by decide +kernel
theorem own_av_d10 : decode prog_100_method_2_code 10 = .ok (.goto 14, 3) := by decide +kernel
theorem own_av_d13 : decode prog_100_method_2_code 13 = .ok (.aload_n 0, 1) := by decide +kernel
theorem own_av_d14 : decode prog_100_method_2_code 14 = .ok (.getfield 28, 3) := by decide +kernel
theorem own_av_d17 : decode prog_100_method_2_code 17 = .ok (.l2d, 1) := by decide +kernel
theorem own_av_d18 : decode prog_100_method_2_code 18 = .ok (.aload_n 0, 1) := by decide +kernel
theorem own_av_d19 : decode prog_100_method_2_code 19 = .ok (.getfield 22, 3) := by decide +kernel
theorem own_av_d22 : decode prog_100_method_2_code 22 = .ok (.l2d, 1) := by decide +kernel
theorem own_av_d23 : decode prog_100_method_2_code 23 = .ok (.ddiv, 1) := by decide +kernel
theorem own_av_d24 : decode prog_100_method_2_code 24 = .ok (.dreturn, 1) := by decide +kernel
theorem own_av_pn : plainName "com/example/sluicegate/sluicegate/stat/WindowStatistics" = true := by first | (simp [plainName, overriddenIn]; done) | decide +kernel
theorem own_av_ef (m : MethodId) (th : Addr) : entryFrame m #[(.ref th)] 1 = mkF m 0 #[rv th] [] := by first | (simp [entryFrame, mkF, argsToLocals, Value.category]; done) | rfl
def own_av_Q (Z : State) (th : Addr) (tt cc : Int64) (h0 : Heap) (n0 : Nat) (v : Option Value) (h : Heap) (L : List Loc) : Prop := v = some (.double (own_avg tt cc)) ∧ Fr n0 L ∧ h = h0
set_option maxRecDepth 65536 in
set_option maxHeartbeats 40000000 in
theorem own_av (l : Launch) (Z : State) (a0 : Array Value) (hw : ∀ d ∈ tables_1, d.before a0 Z = true) (ws : List Jvm.Cond) (th : Addr) (tt cc : Int64) (h0 : Heap) (n0 : Nat) (F1 : Fld Z h0 th "com/example/sluicegate/sluicegate/stat/WindowStatistics" "completed" "J" (.long cc)) (F2 : Fld Z h0 th "com/example/sluicegate/sluicegate/stat/WindowStatistics" "totalResponseMillis" "J" (.long tt)) :
    MetFree l own_y4 (head1 (Jvm.Cond.code own_y4 prog_100_method_2_code 1 (some .double) :: ws) ({ frames := 0, cells := 0, slots := 0, locals := 0 } : Room)) (fun a U => a = #[(.ref th)] ∧ Z.Warmed39 U.vm ∧ U.heap = h0) (fun _ _ _ _ _ => True) (fun _ U o U' => ∃ v L, o = .returned v ∧ (own_av_Q Z th tt cc h0 n0) v U'.heap L ∧ FrameEnd U o U' L ({ frames := 0, cells := 0, slots := 0, locals := 0 } : Room).cells ({ frames := 0, cells := 0, slots := 0, locals := 0 } : Room).slots) := by
  refine MetFree.of_bodySF (plainFor_of_name own_av_pn) hisR ?_
  intro p e s m args below meth c s₁ Bd hml0 hP hK
  obtain ⟨rfl, hZ, hh⟩ := hP
  have hx := Bd.exec
  have hby := Bd.bytes
  have hml : c.maxLocals = 1 := hml0
  have hown : s.vm.findClass "com/example/sluicegate/sluicegate/stat/WindowStatistics" = some m.cls := findClass_of_methodNamed Bd.named
  have hnm := (name_of_methodNamed Bd.named Bd.method).1
  have hlk : meth.locks = false := Bd.notSynchronized
  have X0 : Stand p l e ({ frames := 0, cells := 0, slots := 0, locals := 0 } : Room) s m #[(.ref th)] below meth c s₁ [] 0 0 := Stand.of_body Bd
  have e0 : s₁.heap = h0 := by rw [← hh, Bd.state]; rfl
  have N0 := Fr.nil n0
  have w_27 := hw _ (List.mem_of_getElem? (l := tables_1) (i := 27) rfl)
  have w_31 := hw _ (List.mem_of_getElem? (l := tables_1) (i := 31) rfl)
  show own_G p.tables e below (fun o U' => ∃ v L, o = .returned v ∧ (own_av_Q Z th tt cc h0 n0) v U'.heap L ∧ FrameEnd s o U' L ({ frames := 0, cells := 0, slots := 0, locals := 0 } : Room).cells ({ frames := 0, cells := 0, slots := 0, locals := 0 } : Room).slots) (s₁.setTop (entryFrame m #[(.ref th)] 1))
  refine own_go (B := s₁.setTop (mkF m 0 #[rv th] [])) (fun t k => castTop (own_av_ef m th) k) ?_
  refine own_go (B := (s₁.setTop (mkF m 1 #[rv th] [(.ref th)]))) (fun t k => XS.aloadN X0.here hx rfl (hb hby own_av_d0) rfl rfl k) ?_
  obtain ⟨T6, X6, e6, st6⟩ := getF X0 hx hZ hown (host := "") (Or.inl w_27) Via.refl e0 F1 (g := (mkF m 1 #[rv th] [(.ref th)])) rfl rfl (hb hby own_av_d1)
  refine own_go (B := (T6.setTop (mkF m 4 #[rv th] [(.long cc)]))) st6 ?_
  refine own_go (B := (T6.setTop (mkF m 5 #[rv th] [(.long (0 : Int64)), (.long cc)]))) (fun t k => XS.lconst X6.here hx rfl (hb hby own_av_d4) k) ?_
  refine own_go (B := (T6.setTop (mkF m 6 #[rv th] [(.int (lcmpW cc (0 : Int64)))]))) (fun t k => XS.lcmp (x := cc) (y := (0 : Int64)) X6.here hx rfl (hb hby own_av_d5) rfl k) ?_
  refine own_lif X6 hx (hb hby own_av_d6) (pc' := 13) (pn := 9) (by decide) (by decide) rfl (fun (hc6 : ¬ cc = (0 : Int64)) => ?_) (fun (hc6 : cc = (0 : Int64)) => ?_)
  · refine own_go (B := (T6.setTop (mkF m 14 #[rv th] [(.ref th)]))) (fun t k => XS.aloadN X6.here hx rfl (hb hby own_av_d13) rfl rfl k) ?_
    obtain ⟨T7, X7, e7, st7⟩ := getF X6 hx hZ hown (host := "") (Or.inl w_31) Via.refl e6 F2 (g := (mkF m 14 #[rv th] [(.ref th)])) rfl rfl (hb hby own_av_d14)
    refine own_go (B := (T7.setTop (mkF m 17 #[rv th] [(.long tt)]))) st7 ?_
    refine own_go (B := (T7.setTop (mkF m 18 #[rv th] [(.double (FP.l2d tt))]))) (fun t k => XS.l2dS (x := tt) (v := (FP.l2d tt)) X7.here hx rfl (hb hby own_av_d17) rfl rfl k) ?_
    refine own_go (B := (T7.setTop (mkF m 19 #[rv th] [(.ref th), (.double (FP.l2d tt))]))) (fun t k => XS.aloadN X7.here hx rfl (hb hby own_av_d18) rfl rfl k) ?_
    obtain ⟨T8, X8, e8, st8⟩ := getF X7 hx hZ hown (host := "") (Or.inl w_27) Via.refl e7 F1 (g := (mkF m 19 #[rv th] [(.ref th), (.double (FP.l2d tt))])) rfl rfl (hb hby own_av_d19)
    refine own_go (B := (T8.setTop (mkF m 22 #[rv th] [(.long cc), (.double (FP.l2d tt))]))) st8 ?_
    refine own_go (B := (T8.setTop (mkF m 23 #[rv th] [(.double (FP.l2d cc)), (.double (FP.l2d tt))]))) (fun t k => XS.l2dS (x := cc) (v := (FP.l2d cc)) X8.here hx rfl (hb hby own_av_d22) rfl rfl k) ?_
    refine own_go (B := (T8.setTop (mkF m 24 #[rv th] [(.double (FP.ddiv (FP.l2d tt) (FP.l2d cc)))]))) (fun t k => XS.ddivS (x := (FP.l2d tt)) (y := (FP.l2d cc)) (v := (FP.ddiv (FP.l2d tt) (FP.l2d cc))) X8.here hx rfl (hb hby own_av_d23) rfl (own_nn hc6) rfl k) ?_
    exact own_retD X8 hx hlk Bd.returns (hb hby own_av_d24) (own_b rfl) (own_b rfl) (Q := (own_av_Q Z th tt cc h0 n0)) ⟨by rw [own_avg, if_neg hc6], N0, e8⟩
  · refine own_go (B := (T6.setTop (mkF m 10 #[rv th] [(.double (0 : UInt64))]))) (fun t k => XS.dconst0 (v := (0 : UInt64)) X6.here hx rfl (hb hby own_av_d9) rfl k) ?_
    refine own_go (B := (T6.setTop (mkF m 24 #[rv th] [(.double (0 : UInt64))]))) (fun t k => XS.goto X6.here hx rfl (pc0 := 10) (pc' := 24) rfl (hb hby own_av_d10) (by decide) (by decide) k) ?_
    exact own_retD X6 hx hlk Bd.returns (hb hby own_av_d24) (own_b rfl) (own_b rfl) (Q := (own_av_Q Z th tt cc h0 n0)) ⟨by rw [own_avg, if_pos hc6], N0, e6⟩

theorem own_cEq {x y : UInt64} (h : FP.Core.dcmp x y = some .eq) : own_c x y = (0 : Int32) := by
  rw [own_c, show FP.dcmp x y = some .eq from h]
  decide
theorem own_cgLt {x y : UInt64} (h : FP.Core.dcmp x y = some .lt) : own_cg x y < (0 : Int32) := by
  rw [own_cg, show FP.dcmp x y = some .lt from h]
  decide
theorem own_cgLe {x y : UInt64} (h : FP.Core.dcmp x y = some .lt ∨ FP.Core.dcmp x y = some .eq) : ¬ (0 : Int32) < own_cg x y := by
  rcases h with h | h
  · rw [own_cg, show FP.dcmp x y = some .lt from h]
    decide
  · rw [own_cg, show FP.dcmp x y = some .eq from h]
    decide
theorem own_avn {t c : Int64} (h : ¬ c = 0) : own_avg t c = FP.Core.ddiv (FP.Core.l2d t) (FP.Core.l2d c) := by rw [own_avg, if_neg h]
theorem own_t16 {p0 : Int64} {z10 : UInt64} (h : z10 = (own_avg p0 (0 : Int64))) : (own_c z10 (0 : UInt64)) = (0 : Int32) := by
  rw [h, own_avg, if_pos rfl]
  exact own_cEq (by decide +kernel)
theorem own_z29 {p4 : Int32} {z29 : Int64} (h : z29 = (((p4 &&& (67108863 : Int32)) + (1 : Int32)).toInt64)) : 1 ≤ z29.toInt ∧ z29.toInt ≤ 67108864 := by
  have m := c_mask p4 (67108863 : Int32) 26 (by decide) (by decide)
  have a := c_iadd (p4 &&& (67108863 : Int32)) (1 : Int32)
  have e1 : (1 : Int32).toInt = 1 := by decide
  have r1 := ((p4 &&& (67108863 : Int32)) + (1 : Int32)).toInt_lt
  have r2 := ((p4 &&& (67108863 : Int32)) + (1 : Int32)).le_toInt
  rw [h, c_i2l]
  rw [e1] at a
  omega
theorem own_z36 {p3 : Int32} {z36 : Int64} (h : z36 = ((p3 >>> ((5 : Int32) &&& 31)).toInt64)) : z36.toInt.natAbs ≤ 67108864 := by
  have m := c_ishr p3 (5 : Int32) 5 (by decide)
  have r1 := p3.toInt_lt
  have r2 := p3.le_toInt
  rw [h, c_i2l, m]
  omega
theorem own_ne0 {c : Int64} (h : 1 ≤ c.toInt) : ¬ c = 0 := FP.Core.own_bne h
theorem own_t61 {p3 p4 : Int32} {z29 z36 : Int64} {z53 : UInt64} (h29 : z29 = (((p4 &&& (67108863 : Int32)) + (1 : Int32)).toInt64)) (h36 : z36 = ((p3 >>> ((5 : Int32) &&& 31)).toInt64)) (h53 : z53 = (own_avg (z29 * z36) z29)) : (own_c z53 (FP.l2d z36)) = (0 : Int32) := by
  have a := own_z29 h29
  rw [h53, own_avn (own_ne0 a.1)]
  exact own_cEq (FP.Core.own_exact a.1 a.2 (own_z36 h36))
theorem own_z74 {p4 z74 : Int32} (h : z74 = (((p4.toUInt32 >>> ((26 : Int32) &&& 31).toUInt32).toInt32) &&& (15 : Int32))) : 0 ≤ z74.toInt ∧ z74.toInt < 16 := by
  have m := c_mask ((p4.toUInt32 >>> ((26 : Int32) &&& 31).toUInt32).toInt32) (15 : Int32) 4 (by decide) (by decide)
  rw [← h] at m
  omega
theorem own_at {z : Int32} (j : Int32) (h : z.toInt = j.toInt) : z = j := Int32.toInt.inj h
theorem own_pk1 {x z80 z90 : Int64} {j : Int32} (k : Nat) (E : Int) (hk : k ≤ 15) (h80 : z80 = ((1 : Int64) <<< (j &&& 0x3f).toInt64)) (h90 : z90 = (x &&& (z80 - (1 : Int64)))) (hj : ((1 : Int64) <<< (j &&& 0x3f).toInt64).toInt = (2 ^ k : Nat)) (hm : (((1 : Int64) <<< (j &&& 0x3f).toInt64) - (1 : Int64)).toBitVec.toNat = 2 ^ k - 1) (hE : ((2 ^ k : Nat) : Int) * E = 32768) (hE1 : 1 ≤ E) :
    ∃ E : Int, 1 ≤ z80.toInt ∧ z80.toInt * E = 32768 ∧ 1 ≤ E ∧ 0 ≤ z90.toInt ∧ z90.toInt < z80.toInt := by
  have hp := Nat.two_pow_pos k
  rw [← h80] at hj hm
  have m := c_maskL x (z80 - (1 : Int64)) k (by omega) hm
  rw [← h90] at m
  refine ⟨E, by omega, by rw [hj]; exact hE, hE1, ?_, ?_⟩
  · rw [m]; exact Int.emod_nonneg _ (by omega)
  · rw [m, hj]; exact Int.emod_lt_of_pos _ (by omega)
theorem own_pk {p4 z74 : Int32} {x z80 z90 : Int64} (h74 : z74 = (((p4.toUInt32 >>> ((26 : Int32) &&& 31).toUInt32).toInt32) &&& (15 : Int32))) (h80 : z80 = ((1 : Int64) <<< (z74 &&& 0x3f).toInt64)) (h90 : z90 = (x &&& (z80 - (1 : Int64)))) : ∃ E : Int, 1 ≤ z80.toInt ∧ z80.toInt * E = 32768 ∧ 1 ≤ E ∧ 0 ≤ z90.toInt ∧ z90.toInt < z80.toInt := by
  have r := own_z74 h74
  have q : z74.toInt = 0 ∨ z74.toInt = 1 ∨ z74.toInt = 2 ∨ z74.toInt = 3 ∨ z74.toInt = 4 ∨ z74.toInt = 5 ∨ z74.toInt = 6 ∨ z74.toInt = 7 ∨ z74.toInt = 8 ∨ z74.toInt = 9 ∨ z74.toInt = 10 ∨ z74.toInt = 11 ∨ z74.toInt = 12 ∨ z74.toInt = 13 ∨ z74.toInt = 14 ∨ z74.toInt = 15 := by omega
  clear h74 r
  rcases q with q | q | q | q | q | q | q | q | q | q | q | q | q | q | q | q
  · obtain rfl := own_at (0 : Int32) (q.trans (by decide))
    exact own_pk1 0 32768 (by decide) h80 h90 (by decide) (by decide) (by decide) (by decide)
  · obtain rfl := own_at (1 : Int32) (q.trans (by decide))
    exact own_pk1 1 16384 (by decide) h80 h90 (by decide) (by decide) (by decide) (by decide)
  · obtain rfl := own_at (2 : Int32) (q.trans (by decide))
    exact own_pk1 2 8192 (by decide) h80 h90 (by decide) (by decide) (by decide) (by decide)
  · obtain rfl := own_at (3 : Int32) (q.trans (by decide))
    exact own_pk1 3 4096 (by decide) h80 h90 (by decide) (by decide) (by decide) (by decide)
  · obtain rfl := own_at (4 : Int32) (q.trans (by decide))
    exact own_pk1 4 2048 (by decide) h80 h90 (by decide) (by decide) (by decide) (by decide)
  · obtain rfl := own_at (5 : Int32) (q.trans (by decide))
    exact own_pk1 5 1024 (by decide) h80 h90 (by decide) (by decide) (by decide) (by decide)
  · obtain rfl := own_at (6 : Int32) (q.trans (by decide))
    exact own_pk1 6 512 (by decide) h80 h90 (by decide) (by decide) (by decide) (by decide)
  · obtain rfl := own_at (7 : Int32) (q.trans (by decide))
    exact own_pk1 7 256 (by decide) h80 h90 (by decide) (by decide) (by decide) (by decide)
  · obtain rfl := own_at (8 : Int32) (q.trans (by decide))
    exact own_pk1 8 128 (by decide) h80 h90 (by decide) (by decide) (by decide) (by decide)
  · obtain rfl := own_at (9 : Int32) (q.trans (by decide))
    exact own_pk1 9 64 (by decide) h80 h90 (by decide) (by decide) (by decide) (by decide)
  · obtain rfl := own_at (10 : Int32) (q.trans (by decide))
    exact own_pk1 10 32 (by decide) h80 h90 (by decide) (by decide) (by decide) (by decide)
  · obtain rfl := own_at (11 : Int32) (q.trans (by decide))
    exact own_pk1 11 16 (by decide) h80 h90 (by decide) (by decide) (by decide) (by decide)
  · obtain rfl := own_at (12 : Int32) (q.trans (by decide))
    exact own_pk1 12 8 (by decide) h80 h90 (by decide) (by decide) (by decide) (by decide)
  · obtain rfl := own_at (13 : Int32) (q.trans (by decide))
    exact own_pk1 13 4 (by decide) h80 h90 (by decide) (by decide) (by decide) (by decide)
  · obtain rfl := own_at (14 : Int32) (q.trans (by decide))
    exact own_pk1 14 2 (by decide) h80 h90 (by decide) (by decide) (by decide) (by decide)
  · obtain rfl := own_at (15 : Int32) (q.trans (by decide))
    exact own_pk1 15 1 (by decide) h80 h90 (by decide) (by decide) (by decide) (by decide)
theorem own_t123 {p4 p5 z74 : Int32} {z80 z90 : Int64} (h74 : z74 = (((p4.toUInt32 >>> ((26 : Int32) &&& 31).toUInt32).toInt32) &&& (15 : Int32))) (h80 : z80 = ((1 : Int64) <<< (z74 &&& 0x3f).toInt64)) (h90 : z90 = ((p5.toInt64) &&& (z80 - (1 : Int64)))) : Jvm.Free.Fl.NoNaN64 (FP.ddiv (FP.l2d z90) (FP.l2d z80)) := by
  obtain ⟨E, a, b, c, d, e⟩ := own_pk h74 h80 h90
  exact own_nn (own_ne0 a)
theorem own_t124 {p3 p4 p5 z74 : Int32} {z36 z80 z90 : Int64} (h36 : z36 = ((p3 >>> ((5 : Int32) &&& 31)).toInt64)) (h74 : z74 = (((p4.toUInt32 >>> ((26 : Int32) &&& 31).toUInt32).toInt32) &&& (15 : Int32))) (h80 : z80 = ((1 : Int64) <<< (z74 &&& 0x3f).toInt64)) (h90 : z90 = ((p5.toInt64) &&& (z80 - (1 : Int64)))) : Jvm.Free.Fl.NoNaN64 (FP.dadd (FP.l2d z36) (FP.ddiv (FP.l2d z90) (FP.l2d z80))) := by
  obtain ⟨E, a, b, c, d, e⟩ := own_pk h74 h80 h90
  exact own_nnD (FP.Core.own_frac a b c (own_z36 h36) d e).1
theorem own_t126 {p3 p4 p5 z74 : Int32} {z36 z80 z90 : Int64} {z110 : UInt64} (h36 : z36 = ((p3 >>> ((5 : Int32) &&& 31)).toInt64)) (h74 : z74 = (((p4.toUInt32 >>> ((26 : Int32) &&& 31).toUInt32).toInt32) &&& (15 : Int32))) (h80 : z80 = ((1 : Int64) <<< (z74 &&& 0x3f).toInt64)) (h90 : z90 = ((p5.toInt64) &&& (z80 - (1 : Int64)))) (h110 : z110 = (own_avg ((z36 * z80) + z90) z80)) : (own_c z110 (FP.dadd (FP.l2d z36) (FP.ddiv (FP.l2d z90) (FP.l2d z80)))) = (0 : Int32) := by
  obtain ⟨E, a, b, c, d, e⟩ := own_pk h74 h80 h90
  rw [h110, own_avn (own_ne0 a)]
  exact own_cEq (FP.Core.own_frac a b c (own_z36 h36) d e).2
theorem own_cd {p1 z136 : Int64} (h : z136 = (p1 &&& (9223372036854775807 : Int64))) (h0 : ¬ z136 = (0 : Int64)) : 1 ≤ z136.toInt := by
  have m := c_maskL p1 (9223372036854775807 : Int64) 63 (by decide) (by decide)
  rw [← h] at m
  have : z136.toInt ≠ 0 := FP.Core.int64_ne h0
  omega
theorem own_t162 {p0 z136 : Int64} {z149 : UInt64} (h0 : z136 = (0 : Int64)) (h : z149 = (own_avg p0 z136)) : (own_c z149 (0 : UInt64)) = (0 : Int32) := by
  rw [h, h0]
  exact own_t16 rfl
theorem own_t187 {p0 z136 : Int64} {z149 z173 : UInt64} (h1 : z136 = (1 : Int64)) (h : z149 = (own_avg p0 z136)) (h173 : z173 = (FP.l2d p0)) : (own_c z149 z173) = (0 : Int32) := by
  rw [h, h1, h173, own_avn (by decide)]
  exact own_cEq FP.Core.own_un
theorem own_pos {p : Int64} (h : (0 : Int64) < p) : 1 ≤ p.toInt := by
  rw [Int64.lt_iff_toInt_lt, show (0 : Int64).toInt = 0 from by decide] at h
  omega
theorem own_neg {p : Int64} (h : p < (0 : Int64)) : p.toInt ≤ -1 := by
  rw [Int64.lt_iff_toInt_lt, show (0 : Int64).toInt = 0 from by decide] at h
  omega
theorem own_t202 {p0 p1 z136 : Int64} {z149 : UInt64} (h136 : z136 = (p1 &&& (9223372036854775807 : Int64))) (h0 : ¬ z136 = (0 : Int64)) (h : z149 = (own_avg p0 z136)) (hp : (0 : Int64) < p0) : (own_cg (0 : UInt64) z149) < (0 : Int32) := by
  rw [h, own_avn h0]
  exact own_cgLt (FP.Core.own_top (own_cd h136 h0) (own_pos hp)).1
theorem own_t210 {p0 p1 z136 : Int64} {z149 z173 : UInt64} (h136 : z136 = (p1 &&& (9223372036854775807 : Int64))) (h0 : ¬ z136 = (0 : Int64)) (h : z149 = (own_avg p0 z136)) (hp : (0 : Int64) < p0) (h173 : z173 = (FP.l2d p0)) : ¬ (0 : Int32) < (own_cg z149 z173) := by
  rw [h, h173, own_avn h0]
  exact own_cgLe (FP.Core.own_top (own_cd h136 h0) (own_pos hp)).2
theorem own_t230 {p0 p1 z136 : Int64} {z149 z173 : UInt64} (h136 : z136 = (p1 &&& (9223372036854775807 : Int64))) (h0 : ¬ z136 = (0 : Int64)) (h : z149 = (own_avg p0 z136)) (hp : p0 < (0 : Int64)) (h173 : z173 = (FP.l2d p0)) : ¬ (0 : Int32) < (own_cg z173 z149) := by
  rw [h, h173, own_avn h0]
  exact own_cgLe (FP.Core.own_low (own_cd h136 h0) (own_neg hp)).2
theorem own_t237 {p0 p1 z136 : Int64} {z149 : UInt64} (h136 : z136 = (p1 &&& (9223372036854775807 : Int64))) (h0 : ¬ z136 = (0 : Int64)) (h : z149 = (own_avg p0 z136)) (hp : p0 < (0 : Int64)) : (own_cg z149 (0 : UInt64)) < (0 : Int32) := by
  rw [h, own_avn h0]
  exact own_cgLt (FP.Core.own_low (own_cd h136 h0) (own_neg hp)).1
theorem own_t250 {p0 p1 z136 : Int64} {z149 : UInt64} (h136 : z136 = (p1 &&& (9223372036854775807 : Int64))) (h0 : ¬ z136 = (0 : Int64)) (h : z149 = (own_avg p0 z136)) (hp : ¬ (0 : Int64) < p0) (hq : ¬ p0 < (0 : Int64)) : (own_c z149 (0 : UInt64)) = (0 : Int32) := by
  rw [h, own_avn h0]
  refine own_cEq (FP.Core.own_zer (own_cd h136 h0) ?_)
  refine Int64.toInt.inj ?_
  rw [Int64.lt_iff_toInt_lt, show (0 : Int64).toInt = 0 from by decide] at hp hq
  rw [show (0 : Int64).toInt = 0 from by decide]
  omega

theorem own_law_pn : plainName "com/example/sluicegate/sluicegate/stat/WindowStatisticsAverageResponseMillisPinLaw" = true := by first | (simp [plainName, overriddenIn]; done) | decide +kernel
theorem own_law_ef (m : MethodId) (p0 : Int64) (p1 : Int64) (p2 : Int64) (p3 : Int32) (p4 : Int32) (p5 : Int32) : entryFrame m #[(.long p0), (.long p1), (.long p2), (.int p3), (.int p4), (.int p5)] maxLocals = mkF m 0 #[.val (.long p0), .second, .val (.long p1), .second, .val (.long p2), .second, iv p3, iv p4, iv p5, .unset, .unset, .unset, .unset, .unset, .unset, .unset, .unset, .unset, .unset, .unset, .unset, .unset, .unset, .unset, .unset, .unset, .unset, .unset, .unset, .unset] [] := by first | (simp [entryFrame, mkF, argsToLocals, Value.category, maxLocals]; done) | rfl
def own_law_Q (Z : State) (p0 : Int64) (p1 : Int64) (p2 : Int64) (p3 : Int32) (p4 : Int32) (p5 : Int32) (h0 : Heap) (n0 : Nat) (v : Option Value) (h : Heap) (L : List Loc) : Prop := v = some (.int 1) ∧ Fr n0 L
set_option maxRecDepth 65536 in
set_option maxHeartbeats 40000000 in
theorem own_law (l : Launch) (Z : State) (a0 : Array Value) (hw : ∀ d ∈ tables_1, d.before a0 Z = true) (ws : List Jvm.Cond) (p0 : Int64) (p1 : Int64) (p2 : Int64) (p3 : Int32) (p4 : Int32) (p5 : Int32) (h0 : Heap) (n0 : Nat) (Z0 : n0 ≤ h0.size) :
    MetFree l x (head1 (Jvm.Cond.code x code maxLocals ret :: ws) room_1) (fun a U => a = #[(.long p0), (.long p1), (.long p2), (.int p3), (.int p4), (.int p5)] ∧ Z.Warmed39 U.vm ∧ U.heap = h0) (fun _ _ _ _ _ => True) (fun _ U o U' => ∃ v L, o = .returned v ∧ (own_law_Q Z p0 p1 p2 p3 p4 p5 h0 n0) v U'.heap L ∧ FrameEnd U o U' L 16 128) := by
  refine MetFree.of_bodySF (plainFor_of_name own_law_pn) hisR ?_
  intro p e s m args below meth c s₁ Bd hml0 hP hK
  obtain ⟨rfl, hZ, hh⟩ := hP
  have hx := Bd.exec
  have hby := Bd.bytes
  have hml : c.maxLocals = 30 := hml0
  have hown : s.vm.findClass "com/example/sluicegate/sluicegate/stat/WindowStatisticsAverageResponseMillisPinLaw" = some m.cls := findClass_of_methodNamed Bd.named
  have hnm := (name_of_methodNamed Bd.named Bd.method).1
  have hlk : meth.locks = false := Bd.notSynchronized
  have X0 : Stand p l e room_1 s m #[(.long p0), (.long p1), (.long p2), (.int p3), (.int p4), (.int p5)] below meth c s₁ [] 0 0 := Stand.of_body Bd
  have e0 : s₁.heap = h0 := by rw [← hh, Bd.state]; rfl
  have N0 := Fr.nil n0
  have w_0 := hw _ (List.mem_of_getElem? (l := tables_1) (i := 0) rfl)
  have w_1 := hw _ (List.mem_of_getElem? (l := tables_1) (i := 1) rfl)
  have w_2 := hw _ (List.mem_of_getElem? (l := tables_1) (i := 2) rfl)
  have w_3 := hw _ (List.mem_of_getElem? (l := tables_1) (i := 3) rfl)
  have w_6 := hw _ (List.mem_of_getElem? (l := tables_1) (i := 6) rfl)
  have w_35 := hw _ (List.mem_of_getElem? (l := tables_1) (i := 35) rfl)
  have w_36 := hw _ (List.mem_of_getElem? (l := tables_1) (i := 36) rfl)
  have w_37 := hw _ (List.mem_of_getElem? (l := tables_1) (i := 37) rfl)
  have w_38 := hw _ (List.mem_of_getElem? (l := tables_1) (i := 38) rfl)
  have w_39 := hw _ (List.mem_of_getElem? (l := tables_1) (i := 39) rfl)
  have w_40 := hw _ (List.mem_of_getElem? (l := tables_1) (i := 40) rfl)
  have w_41 := hw _ (List.mem_of_getElem? (l := tables_1) (i := 41) rfl)
  show own_G p.tables e below (fun o U' => ∃ v L, o = .returned v ∧ (own_law_Q Z p0 p1 p2 p3 p4 p5 h0 n0) v U'.heap L ∧ FrameEnd s o U' L 16 128) (s₁.setTop (entryFrame m #[(.long p0), (.long p1), (.long p2), (.int p3), (.int p4), (.int p5)] maxLocals))
  refine own_go (B := s₁.setTop (mkF m 0 #[.val (.long p0), .second, .val (.long p1), .second, .val (.long p2), .second, iv p3, iv p4, iv p5, .unset, .unset, .unset, .unset, .unset, .unset, .unset, .unset, .unset, .unset, .unset, .unset, .unset, .unset, .unset, .unset, .unset, .unset, .unset, .unset, .unset] [])) (fun t k => castTop (own_law_ef m p0 p1 p2 p3 p4 p5) k) ?_
  have K0 := Keep.refl h0 []
  refine own_go (B := (s₁.setTop (mkF m 2 #[.val (.long p0), .second, .val (.long p1), .second, .val (.long p2), .second, iv p3, iv p4, iv p5, .unset, .unset, .unset, .unset, .unset, .unset, .unset, .unset, .unset, .unset, .unset, .unset, .unset, .unset, .unset, .unset, .unset, .unset, .unset, .unset, .unset] [(.long p2)]))) (fun t k => XS.lload X0.here hx rfl (hb hby at_0) rfl k) ?_
  refine own_go (B := (s₁.setTop (mkF m 3 #[.val (.long p0), .second, .val (.long p1), .second, .val (.long p2), .second, iv p3, iv p4, iv p5, .unset, .unset, .unset, .unset, .unset, .unset, .unset, .unset, .unset, .unset, .unset, .unset, .unset, .unset, .unset, .unset, .unset, .unset, .unset, .unset, .unset] [(.long p0), (.long p2)]))) (fun t k => XS.lloadN X0.here hx rfl (hb hby at_2) rfl k) ?_
  refine own_go (B := (s₁.setTop (mkF m 4 #[.val (.long p0), .second, .val (.long p1), .second, .val (.long p2), .second, iv p3, iv p4, iv p5, .unset, .unset, .unset, .unset, .unset, .unset, .unset, .unset, .unset, .unset, .unset, .unset, .unset, .unset, .unset, .unset, .unset, .unset, .unset, .unset, .unset] [(.long (0 : Int64)), (.long p0), (.long p2)]))) (fun t k => XS.lconst X0.here hx rfl (hb hby at_3) k) ?_
  obtain ⟨_, _, ⟨T1, L1, k1, n1⟩, -, X1, ⟨Lc1, hQ1, l1, yy1, zz1⟩, st1⟩ := Jvm.LawKit.callS X0 hx (y := own_y3) hown (mvT hZ w_0) (mvT hZ w_1) (mvT hZ w_2) (mvT hZ w_3) (by decide) (backOf (W := 0) (own_mk l Z a0 hw [] p2 p0 (0 : Int64) h0 n0 Z0) hZ w_3 w_2 (by decide) (by decide)) (g := (mkF m 4 #[.val (.long p0), .second, .val (.long p1), .second, .val (.long p2), .second, iv p3, iv p4, iv p5, .unset, .unset, .unset, .unset, .unset, .unset, .unset, .unset, .unset, .unset, .unset, .unset, .unset, .unset, .unset, .unset, .unset, .unset, .unset, .unset, .unset] [(.long (0 : Int64)), (.long p0), (.long p2)])) rfl (by rw [hml]; rfl) (argsL := [(.long p2), (.long p0), (.long (0 : Int64))]) (rest := []) (lenOf own_pd3 rfl) rfl (by show 2 * 0 + _ ≤ _; exact own_b rfl) (hb hby at_4) (fun _ _ => ⟨rfl, e0, (own_b rfl : 0 + 1 ≤ _), (own_b rfl : 0 + 8 ≤ _)⟩)
  dsimp only [Pt.U, Pt.locs, Pt.cells, Pt.slots] at X1 l1 yy1 zz1 st1 hQ1
  obtain ⟨ra1, rfl, Nq1, K1, Ex1, gc1, gt1⟩ := hQ1
  obtain ⟨L1, X1, N1⟩ := own_absC (K := 1) (K' := 8) X1 l1 yy1 zz1 N0 Nq1
  have F2 : n0 ≤ T1.heap.size := Nat.le_trans Z0 K1.1
  have F3 := Keep.trans K0 K1 all0
  refine own_go (B := (T1.setTop (mkF m 7 #[.val (.long p0), .second, .val (.long p1), .second, .val (.long p2), .second, iv p3, iv p4, iv p5, .unset, .unset, .unset, .unset, .unset, .unset, .unset, .unset, .unset, .unset, .unset, .unset, .unset, .unset, .unset, .unset, .unset, .unset, .unset, .unset, .unset] [(.ref ra1)]))) st1 ?_
  obtain ⟨cq4, kq4, qa4, qb4, qc4⟩ := isOf hZ rfl Ex1
  obtain ⟨_, _, ⟨T4, L4, k4, n4⟩, -, X4, ⟨Lc4, hQ4, l4, yy4, zz4⟩, st4⟩ := X1.virtualBack hx (y := own_y4) (z := own_y4) hown (mvT hZ w_35) (mvT hZ w_36) (notFace_of_selects (args := #[]) (mvT hZ w_38)) (mvT hZ w_38) (mvT hZ w_37) (by decide) (backOf (W := 0) (own_av l Z a0 hw [] ra1 p0 (0 : Int64) T1.heap n0 gc1 gt1) hZ w_39 w_6 (by decide) (by decide)) qa4 qc4 (g := (mkF m 7 #[.val (.long p0), .second, .val (.long p1), .second, .val (.long p2), .second, iv p3, iv p4, iv p5, .unset, .unset, .unset, .unset, .unset, .unset, .unset, .unset, .unset, .unset, .unset, .unset, .unset, .unset, .unset, .unset, .unset, .unset, .unset, .unset, .unset] [(.ref ra1)])) rfl (by rw [hml]; rfl) (Steps.refl _) (argsL := []) (rest := []) (lenOf own_pd4 rfl) rfl (by show 2 * 0 + _ ≤ _; exact own_b rfl) (hb hby at_7) (fun _ _ => ⟨rfl, rfl, (own_b rfl : 1 + 0 ≤ _), (own_b rfl : 8 + 0 ≤ _)⟩)
  dsimp only [Pt.U, Pt.locs, Pt.cells, Pt.slots] at X4 l4 yy4 zz4 st4 hQ4
  obtain ⟨rfl, Nq4, eq4⟩ := hQ4
  obtain ⟨L4, X4, N4⟩ := own_absC (K := 1) (K' := 8) X4 l4 yy4 zz4 N1 Nq4
  have e4 : T4.heap = T1.heap := eq4
  refine own_tr (B := (T4.setTop (mkF m 10 #[.val (.long p0), .second, .val (.long p1), .second, .val (.long p2), .second, iv p3, iv p4, iv p5, .unset, .unset, .unset, .unset, .unset, .unset, .unset, .unset, .unset, .unset, .unset, .unset, .unset, .unset, .unset, .unset, .unset, .unset, .unset, .unset, .unset] [(.double (own_avg p0 (0 : Int64)))]))) st4 ?_
  obtain ⟨z10, hz10⟩ : ∃ z : UInt64, z = (own_avg p0 (0 : Int64)) := ⟨_, rfl⟩
  rw [← hz10]
  refine own_go (B := (T4.setTop (mkF m 12 #[.val (.long p0), .second, .val (.long p1), .second, .val (.long p2), .second, iv p3, iv p4, iv p5, .val (.double z10), .second, .unset, .unset, .unset, .unset, .unset, .unset, .unset, .unset, .unset, .unset, .unset, .unset, .unset, .unset, .unset, .unset, .unset, .unset, .unset] []))) (fun t k => XS.dstore X4.here hx rfl (hb hby at_10) rfl (l' := #[.val (.long p0), .second, .val (.long p1), .second, .val (.long p2), .second, iv p3, iv p4, iv p5, .val (.double z10), .second, .unset, .unset, .unset, .unset, .unset, .unset, .unset, .unset, .unset, .unset, .unset, .unset, .unset, .unset, .unset, .unset, .unset, .unset, .unset]) rfl k) ?_
  refine own_go (B := (T4.setTop (mkF m 14 #[.val (.long p0), .second, .val (.long p1), .second, .val (.long p2), .second, iv p3, iv p4, iv p5, .val (.double z10), .second, .unset, .unset, .unset, .unset, .unset, .unset, .unset, .unset, .unset, .unset, .unset, .unset, .unset, .unset, .unset, .unset, .unset, .unset, .unset] [(.double z10)]))) (fun t k => XS.dload X4.here hx rfl (hb hby at_12) rfl k) ?_
  refine own_go (B := (T4.setTop (mkF m 15 #[.val (.long p0), .second, .val (.long p1), .second, .val (.long p2), .second, iv p3, iv p4, iv p5, .val (.double z10), .second, .unset, .unset, .unset, .unset, .unset, .unset, .unset, .unset, .unset, .unset, .unset, .unset, .unset, .unset, .unset, .unset, .unset, .unset, .unset] [(.double (0 : UInt64)), (.double z10)]))) (fun t k => XS.dconst0 (v := (0 : UInt64)) X4.here hx rfl (hb hby at_14) rfl k) ?_
  refine own_go (B := (T4.setTop (mkF m 16 #[.val (.long p0), .second, .val (.long p1), .second, .val (.long p2), .second, iv p3, iv p4, iv p5, .val (.double z10), .second, .unset, .unset, .unset, .unset, .unset, .unset, .unset, .unset, .unset, .unset, .unset, .unset, .unset, .unset, .unset, .unset, .unset, .unset, .unset] [(.int (own_c z10 (0 : UInt64)))]))) (fun t k => XS.dcmpS (x := z10) (y := (0 : UInt64)) (v := (own_c z10 (0 : UInt64))) X4.here hx rfl (hb hby at_15) rfl rfl k) ?_
  have hc16 : (own_c z10 (0 : UInt64)) = (0 : Int32) := (own_t16 hz10)
  refine own_ifY X4 hx (hb hby at_16) (pc' := 21) (by decide) (by decide) hc16 ?_
  refine own_go (B := (T4.setTop (mkF m 23 #[.val (.long p0), .second, .val (.long p1), .second, .val (.long p2), .second, iv p3, iv p4, iv p5, .val (.double z10), .second, .unset, .unset, .unset, .unset, .unset, .unset, .unset, .unset, .unset, .unset, .unset, .unset, .unset, .unset, .unset, .unset, .unset, .unset, .unset] [(.int p4)]))) (fun t k => XS.iload X4.here hx rfl (hb hby at_21) rfl k) ?_
  have lc5 := X4.ldcInt hx hown (v := (67108863 : Int32)) (mvT hZ w_40) (g := (mkF m 23 #[.val (.long p0), .second, .val (.long p1), .second, .val (.long p2), .second, iv p3, iv p4, iv p5, .val (.double z10), .second, .unset, .unset, .unset, .unset, .unset, .unset, .unset, .unset, .unset, .unset, .unset, .unset, .unset, .unset, .unset, .unset, .unset, .unset, .unset] [(.int p4)])) rfl (hb hby at_23)
  refine own_go (B := (T4.setTop (mkF m 25 #[.val (.long p0), .second, .val (.long p1), .second, .val (.long p2), .second, iv p3, iv p4, iv p5, .val (.double z10), .second, .unset, .unset, .unset, .unset, .unset, .unset, .unset, .unset, .unset, .unset, .unset, .unset, .unset, .unset, .unset, .unset, .unset, .unset, .unset] [(.int (67108863 : Int32)), (.int p4)]))) lc5 ?_
  refine own_go (B := (T4.setTop (mkF m 26 #[.val (.long p0), .second, .val (.long p1), .second, .val (.long p2), .second, iv p3, iv p4, iv p5, .val (.double z10), .second, .unset, .unset, .unset, .unset, .unset, .unset, .unset, .unset, .unset, .unset, .unset, .unset, .unset, .unset, .unset, .unset, .unset, .unset, .unset] [(.int (p4 &&& (67108863 : Int32)))]))) (fun t k => XS.iand (x := p4) (y := (67108863 : Int32)) X4.here hx rfl (hb hby at_25) rfl k) ?_
  refine own_go (B := (T4.setTop (mkF m 27 #[.val (.long p0), .second, .val (.long p1), .second, .val (.long p2), .second, iv p3, iv p4, iv p5, .val (.double z10), .second, .unset, .unset, .unset, .unset, .unset, .unset, .unset, .unset, .unset, .unset, .unset, .unset, .unset, .unset, .unset, .unset, .unset, .unset, .unset] [(.int (1 : Int32)), (.int (p4 &&& (67108863 : Int32)))]))) (fun t k => own_iconst (v := (1 : Int32)) X4.here hx rfl (hb hby at_26) (by decide) k) ?_
  refine own_go (B := (T4.setTop (mkF m 28 #[.val (.long p0), .second, .val (.long p1), .second, .val (.long p2), .second, iv p3, iv p4, iv p5, .val (.double z10), .second, .unset, .unset, .unset, .unset, .unset, .unset, .unset, .unset, .unset, .unset, .unset, .unset, .unset, .unset, .unset, .unset, .unset, .unset, .unset] [(.int ((p4 &&& (67108863 : Int32)) + (1 : Int32)))]))) (fun t k => XS.iadd (x := (p4 &&& (67108863 : Int32))) (y := (1 : Int32)) X4.here hx rfl (hb hby at_27) rfl k) ?_
  refine own_go (B := (T4.setTop (mkF m 29 #[.val (.long p0), .second, .val (.long p1), .second, .val (.long p2), .second, iv p3, iv p4, iv p5, .val (.double z10), .second, .unset, .unset, .unset, .unset, .unset, .unset, .unset, .unset, .unset, .unset, .unset, .unset, .unset, .unset, .unset, .unset, .unset, .unset, .unset] [(.long (((p4 &&& (67108863 : Int32)) + (1 : Int32)).toInt64))]))) (fun t k => XS.i2l X4.here hx rfl (hb hby at_28) rfl k) ?_
  obtain ⟨z29, hz29⟩ : ∃ z : Int64, z = (((p4 &&& (67108863 : Int32)) + (1 : Int32)).toInt64) := ⟨_, rfl⟩
  rw [← hz29]
  refine own_go (B := (T4.setTop (mkF m 31 #[.val (.long p0), .second, .val (.long p1), .second, .val (.long p2), .second, iv p3, iv p4, iv p5, .val (.double z10), .second, .val (.long z29), .second, .unset, .unset, .unset, .unset, .unset, .unset, .unset, .unset, .unset, .unset, .unset, .unset, .unset, .unset, .unset, .unset, .unset] []))) (fun t k => XS.lstore X4.here hx rfl (hb hby at_29) rfl (l' := #[.val (.long p0), .second, .val (.long p1), .second, .val (.long p2), .second, iv p3, iv p4, iv p5, .val (.double z10), .second, .val (.long z29), .second, .unset, .unset, .unset, .unset, .unset, .unset, .unset, .unset, .unset, .unset, .unset, .unset, .unset, .unset, .unset, .unset, .unset]) rfl k) ?_
  refine own_go (B := (T4.setTop (mkF m 33 #[.val (.long p0), .second, .val (.long p1), .second, .val (.long p2), .second, iv p3, iv p4, iv p5, .val (.double z10), .second, .val (.long z29), .second, .unset, .unset, .unset, .unset, .unset, .unset, .unset, .unset, .unset, .unset, .unset, .unset, .unset, .unset, .unset, .unset, .unset] [(.int p3)]))) (fun t k => XS.iload X4.here hx rfl (hb hby at_31) rfl k) ?_
  refine own_go (B := (T4.setTop (mkF m 34 #[.val (.long p0), .second, .val (.long p1), .second, .val (.long p2), .second, iv p3, iv p4, iv p5, .val (.double z10), .second, .val (.long z29), .second, .unset, .unset, .unset, .unset, .unset, .unset, .unset, .unset, .unset, .unset, .unset, .unset, .unset, .unset, .unset, .unset, .unset] [(.int (5 : Int32)), (.int p3)]))) (fun t k => own_iconst (v := (5 : Int32)) X4.here hx rfl (hb hby at_33) (by decide) k) ?_
  refine own_go (B := (T4.setTop (mkF m 35 #[.val (.long p0), .second, .val (.long p1), .second, .val (.long p2), .second, iv p3, iv p4, iv p5, .val (.double z10), .second, .val (.long z29), .second, .unset, .unset, .unset, .unset, .unset, .unset, .unset, .unset, .unset, .unset, .unset, .unset, .unset, .unset, .unset, .unset, .unset] [(.int (p3 >>> ((5 : Int32) &&& 31)))]))) (fun t k => XS.ishr (x := p3) (y := (5 : Int32)) X4.here hx rfl (hb hby at_34) rfl k) ?_
  refine own_go (B := (T4.setTop (mkF m 36 #[.val (.long p0), .second, .val (.long p1), .second, .val (.long p2), .second, iv p3, iv p4, iv p5, .val (.double z10), .second, .val (.long z29), .second, .unset, .unset, .unset, .unset, .unset, .unset, .unset, .unset, .unset, .unset, .unset, .unset, .unset, .unset, .unset, .unset, .unset] [(.long ((p3 >>> ((5 : Int32) &&& 31)).toInt64))]))) (fun t k => XS.i2l X4.here hx rfl (hb hby at_35) rfl k) ?_
  obtain ⟨z36, hz36⟩ : ∃ z : Int64, z = ((p3 >>> ((5 : Int32) &&& 31)).toInt64) := ⟨_, rfl⟩
  rw [← hz36]
  refine own_go (B := (T4.setTop (mkF m 38 #[.val (.long p0), .second, .val (.long p1), .second, .val (.long p2), .second, iv p3, iv p4, iv p5, .val (.double z10), .second, .val (.long z29), .second, .val (.long z36), .second, .unset, .unset, .unset, .unset, .unset, .unset, .unset, .unset, .unset, .unset, .unset, .unset, .unset, .unset, .unset] []))) (fun t k => XS.lstore X4.here hx rfl (hb hby at_36) rfl (l' := #[.val (.long p0), .second, .val (.long p1), .second, .val (.long p2), .second, iv p3, iv p4, iv p5, .val (.double z10), .second, .val (.long z29), .second, .val (.long z36), .second, .unset, .unset, .unset, .unset, .unset, .unset, .unset, .unset, .unset, .unset, .unset, .unset, .unset, .unset, .unset]) rfl k) ?_
  refine own_go (B := (T4.setTop (mkF m 40 #[.val (.long p0), .second, .val (.long p1), .second, .val (.long p2), .second, iv p3, iv p4, iv p5, .val (.double z10), .second, .val (.long z29), .second, .val (.long z36), .second, .unset, .unset, .unset, .unset, .unset, .unset, .unset, .unset, .unset, .unset, .unset, .unset, .unset, .unset, .unset] [(.long p2)]))) (fun t k => XS.lload X4.here hx rfl (hb hby at_38) rfl k) ?_
  refine own_go (B := (T4.setTop (mkF m 42 #[.val (.long p0), .second, .val (.long p1), .second, .val (.long p2), .second, iv p3, iv p4, iv p5, .val (.double z10), .second, .val (.long z29), .second, .val (.long z36), .second, .unset, .unset, .unset, .unset, .unset, .unset, .unset, .unset, .unset, .unset, .unset, .unset, .unset, .unset, .unset] [(.long z29), (.long p2)]))) (fun t k => XS.lload X4.here hx rfl (hb hby at_40) rfl k) ?_
  refine own_go (B := (T4.setTop (mkF m 44 #[.val (.long p0), .second, .val (.long p1), .second, .val (.long p2), .second, iv p3, iv p4, iv p5, .val (.double z10), .second, .val (.long z29), .second, .val (.long z36), .second, .unset, .unset, .unset, .unset, .unset, .unset, .unset, .unset, .unset, .unset, .unset, .unset, .unset, .unset, .unset] [(.long z36), (.long z29), (.long p2)]))) (fun t k => XS.lload X4.here hx rfl (hb hby at_42) rfl k) ?_
  refine own_go (B := (T4.setTop (mkF m 45 #[.val (.long p0), .second, .val (.long p1), .second, .val (.long p2), .second, iv p3, iv p4, iv p5, .val (.double z10), .second, .val (.long z29), .second, .val (.long z36), .second, .unset, .unset, .unset, .unset, .unset, .unset, .unset, .unset, .unset, .unset, .unset, .unset, .unset, .unset, .unset] [(.long (z29 * z36)), (.long p2)]))) (fun t k => XS.lmul (x := z29) (y := z36) X4.here hx rfl (hb hby at_44) rfl k) ?_
  refine own_go (B := (T4.setTop (mkF m 47 #[.val (.long p0), .second, .val (.long p1), .second, .val (.long p2), .second, iv p3, iv p4, iv p5, .val (.double z10), .second, .val (.long z29), .second, .val (.long z36), .second, .unset, .unset, .unset, .unset, .unset, .unset, .unset, .unset, .unset, .unset, .unset, .unset, .unset, .unset, .unset] [(.long z29), (.long (z29 * z36)), (.long p2)]))) (fun t k => XS.lload X4.here hx rfl (hb hby at_45) rfl k) ?_
  obtain ⟨_, _, ⟨T6, L6, k6, n6⟩, -, X6, ⟨Lc6, hQ6, l6, yy6, zz6⟩, st6⟩ := Jvm.LawKit.callS X4 hx (y := own_y3) hown (mvT hZ w_0) (mvT hZ w_1) (mvT hZ w_2) (mvT hZ w_3) (by decide) (backOf (W := 0) (own_mk l Z a0 hw [] p2 (z29 * z36) z29 T1.heap n0 F2) hZ w_3 w_2 (by decide) (by decide)) (g := (mkF m 47 #[.val (.long p0), .second, .val (.long p1), .second, .val (.long p2), .second, iv p3, iv p4, iv p5, .val (.double z10), .second, .val (.long z29), .second, .val (.long z36), .second, .unset, .unset, .unset, .unset, .unset, .unset, .unset, .unset, .unset, .unset, .unset, .unset, .unset, .unset, .unset] [(.long z29), (.long (z29 * z36)), (.long p2)])) rfl (by rw [hml]; rfl) (argsL := [(.long p2), (.long (z29 * z36)), (.long z29)]) (rest := []) (lenOf own_pd3 rfl) rfl (by show 2 * 0 + _ ≤ _; exact own_b rfl) (hb hby at_47) (fun _ _ => ⟨rfl, e4, (own_b rfl : 1 + 1 ≤ _), (own_b rfl : 8 + 8 ≤ _)⟩)
  dsimp only [Pt.U, Pt.locs, Pt.cells, Pt.slots] at X6 l6 yy6 zz6 st6 hQ6
  obtain ⟨ra6, rfl, Nq6, K6, Ex6, gc6, gt6⟩ := hQ6
  obtain ⟨L6, X6, N6⟩ := own_absC (K := 2) (K' := 16) X6 l6 yy6 zz6 N4 Nq6
  have F7 : n0 ≤ T6.heap.size := Nat.le_trans F2 K6.1
  have F8 := Keep.trans F3 K6 all0
  have F9 := Exa.keep Ex1 K6
  have F10 := Fld.keep gc1 K6 nin0
  have F11 := Fld.keep gt1 K6 nin0
  refine own_go (B := (T6.setTop (mkF m 50 #[.val (.long p0), .second, .val (.long p1), .second, .val (.long p2), .second, iv p3, iv p4, iv p5, .val (.double z10), .second, .val (.long z29), .second, .val (.long z36), .second, .unset, .unset, .unset, .unset, .unset, .unset, .unset, .unset, .unset, .unset, .unset, .unset, .unset, .unset, .unset] [(.ref ra6)]))) st6 ?_
  obtain ⟨cq12, kq12, qa12, qb12, qc12⟩ := isOf hZ rfl Ex6
  obtain ⟨_, _, ⟨T12, L12, k12, n12⟩, -, X12, ⟨Lc12, hQ12, l12, yy12, zz12⟩, st12⟩ := X6.virtualBack hx (y := own_y4) (z := own_y4) hown (mvT hZ w_35) (mvT hZ w_36) (notFace_of_selects (args := #[]) (mvT hZ w_38)) (mvT hZ w_38) (mvT hZ w_37) (by decide) (backOf (W := 0) (own_av l Z a0 hw [] ra6 (z29 * z36) z29 T6.heap n0 gc6 gt6) hZ w_39 w_6 (by decide) (by decide)) qa12 qc12 (g := (mkF m 50 #[.val (.long p0), .second, .val (.long p1), .second, .val (.long p2), .second, iv p3, iv p4, iv p5, .val (.double z10), .second, .val (.long z29), .second, .val (.long z36), .second, .unset, .unset, .unset, .unset, .unset, .unset, .unset, .unset, .unset, .unset, .unset, .unset, .unset, .unset, .unset] [(.ref ra6)])) rfl (by rw [hml]; rfl) (Steps.refl _) (argsL := []) (rest := []) (lenOf own_pd4 rfl) rfl (by show 2 * 0 + _ ≤ _; exact own_b rfl) (hb hby at_50) (fun _ _ => ⟨rfl, rfl, (own_b rfl : 2 + 0 ≤ _), (own_b rfl : 16 + 0 ≤ _)⟩)
  dsimp only [Pt.U, Pt.locs, Pt.cells, Pt.slots] at X12 l12 yy12 zz12 st12 hQ12
  obtain ⟨rfl, Nq12, eq12⟩ := hQ12
  obtain ⟨L12, X12, N12⟩ := own_absC (K := 2) (K' := 16) X12 l12 yy12 zz12 N6 Nq12
  have e12 : T12.heap = T6.heap := eq12
  refine own_tr (B := (T12.setTop (mkF m 53 #[.val (.long p0), .second, .val (.long p1), .second, .val (.long p2), .second, iv p3, iv p4, iv p5, .val (.double z10), .second, .val (.long z29), .second, .val (.long z36), .second, .unset, .unset, .unset, .unset, .unset, .unset, .unset, .unset, .unset, .unset, .unset, .unset, .unset, .unset, .unset] [(.double (own_avg (z29 * z36) z29))]))) st12 ?_
  obtain ⟨z53, hz53⟩ : ∃ z : UInt64, z = (own_avg (z29 * z36) z29) := ⟨_, rfl⟩
  rw [← hz53]
  refine own_go (B := (T12.setTop (mkF m 55 #[.val (.long p0), .second, .val (.long p1), .second, .val (.long p2), .second, iv p3, iv p4, iv p5, .val (.double z10), .second, .val (.long z29), .second, .val (.long z36), .second, .val (.double z53), .second, .unset, .unset, .unset, .unset, .unset, .unset, .unset, .unset, .unset, .unset, .unset, .unset, .unset] []))) (fun t k => XS.dstore X12.here hx rfl (hb hby at_53) rfl (l' := #[.val (.long p0), .second, .val (.long p1), .second, .val (.long p2), .second, iv p3, iv p4, iv p5, .val (.double z10), .second, .val (.long z29), .second, .val (.long z36), .second, .val (.double z53), .second, .unset, .unset, .unset, .unset, .unset, .unset, .unset, .unset, .unset, .unset, .unset, .unset, .unset]) rfl k) ?_
  refine own_go (B := (T12.setTop (mkF m 57 #[.val (.long p0), .second, .val (.long p1), .second, .val (.long p2), .second, iv p3, iv p4, iv p5, .val (.double z10), .second, .val (.long z29), .second, .val (.long z36), .second, .val (.double z53), .second, .unset, .unset, .unset, .unset, .unset, .unset, .unset, .unset, .unset, .unset, .unset, .unset, .unset] [(.double z53)]))) (fun t k => XS.dload X12.here hx rfl (hb hby at_55) rfl k) ?_
  refine own_go (B := (T12.setTop (mkF m 59 #[.val (.long p0), .second, .val (.long p1), .second, .val (.long p2), .second, iv p3, iv p4, iv p5, .val (.double z10), .second, .val (.long z29), .second, .val (.long z36), .second, .val (.double z53), .second, .unset, .unset, .unset, .unset, .unset, .unset, .unset, .unset, .unset, .unset, .unset, .unset, .unset] [(.long z36), (.double z53)]))) (fun t k => XS.lload X12.here hx rfl (hb hby at_57) rfl k) ?_
  refine own_go (B := (T12.setTop (mkF m 60 #[.val (.long p0), .second, .val (.long p1), .second, .val (.long p2), .second, iv p3, iv p4, iv p5, .val (.double z10), .second, .val (.long z29), .second, .val (.long z36), .second, .val (.double z53), .second, .unset, .unset, .unset, .unset, .unset, .unset, .unset, .unset, .unset, .unset, .unset, .unset, .unset] [(.double (FP.l2d z36)), (.double z53)]))) (fun t k => XS.l2dS (x := z36) (v := (FP.l2d z36)) X12.here hx rfl (hb hby at_59) rfl rfl k) ?_
  refine own_go (B := (T12.setTop (mkF m 61 #[.val (.long p0), .second, .val (.long p1), .second, .val (.long p2), .second, iv p3, iv p4, iv p5, .val (.double z10), .second, .val (.long z29), .second, .val (.long z36), .second, .val (.double z53), .second, .unset, .unset, .unset, .unset, .unset, .unset, .unset, .unset, .unset, .unset, .unset, .unset, .unset] [(.int (own_c z53 (FP.l2d z36)))]))) (fun t k => XS.dcmpS (x := z53) (y := (FP.l2d z36)) (v := (own_c z53 (FP.l2d z36))) X12.here hx rfl (hb hby at_60) rfl rfl k) ?_
  have hc61 : (own_c z53 (FP.l2d z36)) = (0 : Int32) := (own_t61 hz29 hz36 hz53)
  refine own_ifY X12 hx (hb hby at_61) (pc' := 66) (by decide) (by decide) hc61 ?_
  refine own_go (B := (T12.setTop (mkF m 68 #[.val (.long p0), .second, .val (.long p1), .second, .val (.long p2), .second, iv p3, iv p4, iv p5, .val (.double z10), .second, .val (.long z29), .second, .val (.long z36), .second, .val (.double z53), .second, .unset, .unset, .unset, .unset, .unset, .unset, .unset, .unset, .unset, .unset, .unset, .unset, .unset] [(.int p4)]))) (fun t k => XS.iload X12.here hx rfl (hb hby at_66) rfl k) ?_
  refine own_go (B := (T12.setTop (mkF m 70 #[.val (.long p0), .second, .val (.long p1), .second, .val (.long p2), .second, iv p3, iv p4, iv p5, .val (.double z10), .second, .val (.long z29), .second, .val (.long z36), .second, .val (.double z53), .second, .unset, .unset, .unset, .unset, .unset, .unset, .unset, .unset, .unset, .unset, .unset, .unset, .unset] [(.int (26 : Int32)), (.int p4)]))) (fun t k => own_bipush (v := (26 : Int32)) X12.here hx rfl (hb hby at_68) (by decide) k) ?_
  refine own_go (B := (T12.setTop (mkF m 71 #[.val (.long p0), .second, .val (.long p1), .second, .val (.long p2), .second, iv p3, iv p4, iv p5, .val (.double z10), .second, .val (.long z29), .second, .val (.long z36), .second, .val (.double z53), .second, .unset, .unset, .unset, .unset, .unset, .unset, .unset, .unset, .unset, .unset, .unset, .unset, .unset] [(.int ((p4.toUInt32 >>> ((26 : Int32) &&& 31).toUInt32).toInt32))]))) (fun t k => XS.iushr (x := p4) (y := (26 : Int32)) X12.here hx rfl (hb hby at_70) rfl k) ?_
  refine own_go (B := (T12.setTop (mkF m 73 #[.val (.long p0), .second, .val (.long p1), .second, .val (.long p2), .second, iv p3, iv p4, iv p5, .val (.double z10), .second, .val (.long z29), .second, .val (.long z36), .second, .val (.double z53), .second, .unset, .unset, .unset, .unset, .unset, .unset, .unset, .unset, .unset, .unset, .unset, .unset, .unset] [(.int (15 : Int32)), (.int ((p4.toUInt32 >>> ((26 : Int32) &&& 31).toUInt32).toInt32))]))) (fun t k => own_bipush (v := (15 : Int32)) X12.here hx rfl (hb hby at_71) (by decide) k) ?_
  refine own_go (B := (T12.setTop (mkF m 74 #[.val (.long p0), .second, .val (.long p1), .second, .val (.long p2), .second, iv p3, iv p4, iv p5, .val (.double z10), .second, .val (.long z29), .second, .val (.long z36), .second, .val (.double z53), .second, .unset, .unset, .unset, .unset, .unset, .unset, .unset, .unset, .unset, .unset, .unset, .unset, .unset] [(.int (((p4.toUInt32 >>> ((26 : Int32) &&& 31).toUInt32).toInt32) &&& (15 : Int32)))]))) (fun t k => XS.iand (x := ((p4.toUInt32 >>> ((26 : Int32) &&& 31).toUInt32).toInt32)) (y := (15 : Int32)) X12.here hx rfl (hb hby at_73) rfl k) ?_
  obtain ⟨z74, hz74⟩ : ∃ z : Int32, z = (((p4.toUInt32 >>> ((26 : Int32) &&& 31).toUInt32).toInt32) &&& (15 : Int32)) := ⟨_, rfl⟩
  rw [← hz74]
  refine own_go (B := (T12.setTop (mkF m 76 #[.val (.long p0), .second, .val (.long p1), .second, .val (.long p2), .second, iv p3, iv p4, iv p5, .val (.double z10), .second, .val (.long z29), .second, .val (.long z36), .second, .val (.double z53), .second, iv z74, .unset, .unset, .unset, .unset, .unset, .unset, .unset, .unset, .unset, .unset, .unset, .unset] []))) (fun t k => XS.istore X12.here hx rfl (hb hby at_74) rfl (l' := #[.val (.long p0), .second, .val (.long p1), .second, .val (.long p2), .second, iv p3, iv p4, iv p5, .val (.double z10), .second, .val (.long z29), .second, .val (.long z36), .second, .val (.double z53), .second, iv z74, .unset, .unset, .unset, .unset, .unset, .unset, .unset, .unset, .unset, .unset, .unset, .unset]) rfl k) ?_
  refine own_go (B := (T12.setTop (mkF m 77 #[.val (.long p0), .second, .val (.long p1), .second, .val (.long p2), .second, iv p3, iv p4, iv p5, .val (.double z10), .second, .val (.long z29), .second, .val (.long z36), .second, .val (.double z53), .second, iv z74, .unset, .unset, .unset, .unset, .unset, .unset, .unset, .unset, .unset, .unset, .unset, .unset] [(.long (1 : Int64))]))) (fun t k => XS.lconst X12.here hx rfl (hb hby at_76) k) ?_
  refine own_go (B := (T12.setTop (mkF m 79 #[.val (.long p0), .second, .val (.long p1), .second, .val (.long p2), .second, iv p3, iv p4, iv p5, .val (.double z10), .second, .val (.long z29), .second, .val (.long z36), .second, .val (.double z53), .second, iv z74, .unset, .unset, .unset, .unset, .unset, .unset, .unset, .unset, .unset, .unset, .unset, .unset] [(.int z74), (.long (1 : Int64))]))) (fun t k => XS.iload X12.here hx rfl (hb hby at_77) rfl k) ?_
  refine own_go (B := (T12.setTop (mkF m 80 #[.val (.long p0), .second, .val (.long p1), .second, .val (.long p2), .second, iv p3, iv p4, iv p5, .val (.double z10), .second, .val (.long z29), .second, .val (.long z36), .second, .val (.double z53), .second, iv z74, .unset, .unset, .unset, .unset, .unset, .unset, .unset, .unset, .unset, .unset, .unset, .unset] [(.long ((1 : Int64) <<< (z74 &&& 0x3f).toInt64))]))) (fun t k => XS.lshl (x := (1 : Int64)) (y := z74) X12.here hx rfl (hb hby at_79) rfl k) ?_
  obtain ⟨z80, hz80⟩ : ∃ z : Int64, z = ((1 : Int64) <<< (z74 &&& 0x3f).toInt64) := ⟨_, rfl⟩
  rw [← hz80]
  refine own_go (B := (T12.setTop (mkF m 82 #[.val (.long p0), .second, .val (.long p1), .second, .val (.long p2), .second, iv p3, iv p4, iv p5, .val (.double z10), .second, .val (.long z29), .second, .val (.long z36), .second, .val (.double z53), .second, iv z74, .val (.long z80), .second, .unset, .unset, .unset, .unset, .unset, .unset, .unset, .unset, .unset, .unset] []))) (fun t k => XS.lstore X12.here hx rfl (hb hby at_80) rfl (l' := #[.val (.long p0), .second, .val (.long p1), .second, .val (.long p2), .second, iv p3, iv p4, iv p5, .val (.double z10), .second, .val (.long z29), .second, .val (.long z36), .second, .val (.double z53), .second, iv z74, .val (.long z80), .second, .unset, .unset, .unset, .unset, .unset, .unset, .unset, .unset, .unset, .unset]) rfl k) ?_
  refine own_go (B := (T12.setTop (mkF m 84 #[.val (.long p0), .second, .val (.long p1), .second, .val (.long p2), .second, iv p3, iv p4, iv p5, .val (.double z10), .second, .val (.long z29), .second, .val (.long z36), .second, .val (.double z53), .second, iv z74, .val (.long z80), .second, .unset, .unset, .unset, .unset, .unset, .unset, .unset, .unset, .unset, .unset] [(.int p5)]))) (fun t k => XS.iload X12.here hx rfl (hb hby at_82) rfl k) ?_
  refine own_go (B := (T12.setTop (mkF m 85 #[.val (.long p0), .second, .val (.long p1), .second, .val (.long p2), .second, iv p3, iv p4, iv p5, .val (.double z10), .second, .val (.long z29), .second, .val (.long z36), .second, .val (.double z53), .second, iv z74, .val (.long z80), .second, .unset, .unset, .unset, .unset, .unset, .unset, .unset, .unset, .unset, .unset] [(.long (p5.toInt64))]))) (fun t k => XS.i2l X12.here hx rfl (hb hby at_84) rfl k) ?_
  refine own_go (B := (T12.setTop (mkF m 87 #[.val (.long p0), .second, .val (.long p1), .second, .val (.long p2), .second, iv p3, iv p4, iv p5, .val (.double z10), .second, .val (.long z29), .second, .val (.long z36), .second, .val (.double z53), .second, iv z74, .val (.long z80), .second, .unset, .unset, .unset, .unset, .unset, .unset, .unset, .unset, .unset, .unset] [(.long z80), (.long (p5.toInt64))]))) (fun t k => XS.lload X12.here hx rfl (hb hby at_85) rfl k) ?_
  refine own_go (B := (T12.setTop (mkF m 88 #[.val (.long p0), .second, .val (.long p1), .second, .val (.long p2), .second, iv p3, iv p4, iv p5, .val (.double z10), .second, .val (.long z29), .second, .val (.long z36), .second, .val (.double z53), .second, iv z74, .val (.long z80), .second, .unset, .unset, .unset, .unset, .unset, .unset, .unset, .unset, .unset, .unset] [(.long (1 : Int64)), (.long z80), (.long (p5.toInt64))]))) (fun t k => XS.lconst X12.here hx rfl (hb hby at_87) k) ?_
  refine own_go (B := (T12.setTop (mkF m 89 #[.val (.long p0), .second, .val (.long p1), .second, .val (.long p2), .second, iv p3, iv p4, iv p5, .val (.double z10), .second, .val (.long z29), .second, .val (.long z36), .second, .val (.double z53), .second, iv z74, .val (.long z80), .second, .unset, .unset, .unset, .unset, .unset, .unset, .unset, .unset, .unset, .unset] [(.long (z80 - (1 : Int64))), (.long (p5.toInt64))]))) (fun t k => XS.lsub (x := z80) (y := (1 : Int64)) X12.here hx rfl (hb hby at_88) rfl k) ?_
  refine own_go (B := (T12.setTop (mkF m 90 #[.val (.long p0), .second, .val (.long p1), .second, .val (.long p2), .second, iv p3, iv p4, iv p5, .val (.double z10), .second, .val (.long z29), .second, .val (.long z36), .second, .val (.double z53), .second, iv z74, .val (.long z80), .second, .unset, .unset, .unset, .unset, .unset, .unset, .unset, .unset, .unset, .unset] [(.long ((p5.toInt64) &&& (z80 - (1 : Int64))))]))) (fun t k => XS.land (x := (p5.toInt64)) (y := (z80 - (1 : Int64))) X12.here hx rfl (hb hby at_89) rfl k) ?_
  obtain ⟨z90, hz90⟩ : ∃ z : Int64, z = ((p5.toInt64) &&& (z80 - (1 : Int64))) := ⟨_, rfl⟩
  rw [← hz90]
  refine own_go (B := (T12.setTop (mkF m 92 #[.val (.long p0), .second, .val (.long p1), .second, .val (.long p2), .second, iv p3, iv p4, iv p5, .val (.double z10), .second, .val (.long z29), .second, .val (.long z36), .second, .val (.double z53), .second, iv z74, .val (.long z80), .second, .val (.long z90), .second, .unset, .unset, .unset, .unset, .unset, .unset, .unset, .unset] []))) (fun t k => XS.lstore X12.here hx rfl (hb hby at_90) rfl (l' := #[.val (.long p0), .second, .val (.long p1), .second, .val (.long p2), .second, iv p3, iv p4, iv p5, .val (.double z10), .second, .val (.long z29), .second, .val (.long z36), .second, .val (.double z53), .second, iv z74, .val (.long z80), .second, .val (.long z90), .second, .unset, .unset, .unset, .unset, .unset, .unset, .unset, .unset]) rfl k) ?_
  refine own_go (B := (T12.setTop (mkF m 94 #[.val (.long p0), .second, .val (.long p1), .second, .val (.long p2), .second, iv p3, iv p4, iv p5, .val (.double z10), .second, .val (.long z29), .second, .val (.long z36), .second, .val (.double z53), .second, iv z74, .val (.long z80), .second, .val (.long z90), .second, .unset, .unset, .unset, .unset, .unset, .unset, .unset, .unset] [(.long p2)]))) (fun t k => XS.lload X12.here hx rfl (hb hby at_92) rfl k) ?_
  refine own_go (B := (T12.setTop (mkF m 96 #[.val (.long p0), .second, .val (.long p1), .second, .val (.long p2), .second, iv p3, iv p4, iv p5, .val (.double z10), .second, .val (.long z29), .second, .val (.long z36), .second, .val (.double z53), .second, iv z74, .val (.long z80), .second, .val (.long z90), .second, .unset, .unset, .unset, .unset, .unset, .unset, .unset, .unset] [(.long z36), (.long p2)]))) (fun t k => XS.lload X12.here hx rfl (hb hby at_94) rfl k) ?_
  refine own_go (B := (T12.setTop (mkF m 98 #[.val (.long p0), .second, .val (.long p1), .second, .val (.long p2), .second, iv p3, iv p4, iv p5, .val (.double z10), .second, .val (.long z29), .second, .val (.long z36), .second, .val (.double z53), .second, iv z74, .val (.long z80), .second, .val (.long z90), .second, .unset, .unset, .unset, .unset, .unset, .unset, .unset, .unset] [(.long z80), (.long z36), (.long p2)]))) (fun t k => XS.lload X12.here hx rfl (hb hby at_96) rfl k) ?_
  refine own_go (B := (T12.setTop (mkF m 99 #[.val (.long p0), .second, .val (.long p1), .second, .val (.long p2), .second, iv p3, iv p4, iv p5, .val (.double z10), .second, .val (.long z29), .second, .val (.long z36), .second, .val (.double z53), .second, iv z74, .val (.long z80), .second, .val (.long z90), .second, .unset, .unset, .unset, .unset, .unset, .unset, .unset, .unset] [(.long (z36 * z80)), (.long p2)]))) (fun t k => XS.lmul (x := z36) (y := z80) X12.here hx rfl (hb hby at_98) rfl k) ?_
  refine own_go (B := (T12.setTop (mkF m 101 #[.val (.long p0), .second, .val (.long p1), .second, .val (.long p2), .second, iv p3, iv p4, iv p5, .val (.double z10), .second, .val (.long z29), .second, .val (.long z36), .second, .val (.double z53), .second, iv z74, .val (.long z80), .second, .val (.long z90), .second, .unset, .unset, .unset, .unset, .unset, .unset, .unset, .unset] [(.long z90), (.long (z36 * z80)), (.long p2)]))) (fun t k => XS.lload X12.here hx rfl (hb hby at_99) rfl k) ?_
  refine own_go (B := (T12.setTop (mkF m 102 #[.val (.long p0), .second, .val (.long p1), .second, .val (.long p2), .second, iv p3, iv p4, iv p5, .val (.double z10), .second, .val (.long z29), .second, .val (.long z36), .second, .val (.double z53), .second, iv z74, .val (.long z80), .second, .val (.long z90), .second, .unset, .unset, .unset, .unset, .unset, .unset, .unset, .unset] [(.long ((z36 * z80) + z90)), (.long p2)]))) (fun t k => XS.ladd (x := (z36 * z80)) (y := z90) X12.here hx rfl (hb hby at_101) rfl k) ?_
  refine own_go (B := (T12.setTop (mkF m 104 #[.val (.long p0), .second, .val (.long p1), .second, .val (.long p2), .second, iv p3, iv p4, iv p5, .val (.double z10), .second, .val (.long z29), .second, .val (.long z36), .second, .val (.double z53), .second, iv z74, .val (.long z80), .second, .val (.long z90), .second, .unset, .unset, .unset, .unset, .unset, .unset, .unset, .unset] [(.long z80), (.long ((z36 * z80) + z90)), (.long p2)]))) (fun t k => XS.lload X12.here hx rfl (hb hby at_102) rfl k) ?_
  obtain ⟨_, _, ⟨T13, L13, k13, n13⟩, -, X13, ⟨Lc13, hQ13, l13, yy13, zz13⟩, st13⟩ := Jvm.LawKit.callS X12 hx (y := own_y3) hown (mvT hZ w_0) (mvT hZ w_1) (mvT hZ w_2) (mvT hZ w_3) (by decide) (backOf (W := 0) (own_mk l Z a0 hw [] p2 ((z36 * z80) + z90) z80 T6.heap n0 F7) hZ w_3 w_2 (by decide) (by decide)) (g := (mkF m 104 #[.val (.long p0), .second, .val (.long p1), .second, .val (.long p2), .second, iv p3, iv p4, iv p5, .val (.double z10), .second, .val (.long z29), .second, .val (.long z36), .second, .val (.double z53), .second, iv z74, .val (.long z80), .second, .val (.long z90), .second, .unset, .unset, .unset, .unset, .unset, .unset, .unset, .unset] [(.long z80), (.long ((z36 * z80) + z90)), (.long p2)])) rfl (by rw [hml]; rfl) (argsL := [(.long p2), (.long ((z36 * z80) + z90)), (.long z80)]) (rest := []) (lenOf own_pd3 rfl) rfl (by show 2 * 0 + _ ≤ _; exact own_b rfl) (hb hby at_104) (fun _ _ => ⟨rfl, e12, (own_b rfl : 2 + 1 ≤ _), (own_b rfl : 16 + 8 ≤ _)⟩)
  dsimp only [Pt.U, Pt.locs, Pt.cells, Pt.slots] at X13 l13 yy13 zz13 st13 hQ13
  obtain ⟨ra13, rfl, Nq13, K13, Ex13, gc13, gt13⟩ := hQ13
  obtain ⟨L13, X13, N13⟩ := own_absC (K := 3) (K' := 24) X13 l13 yy13 zz13 N12 Nq13
  have F14 : n0 ≤ T13.heap.size := Nat.le_trans F7 K13.1
  have F15 := Keep.trans F8 K13 all0
  have F16 := Exa.keep F9 K13
  have F17 := Fld.keep F10 K13 nin0
  have F18 := Fld.keep F11 K13 nin0
  have F19 := Exa.keep Ex6 K13
  have F20 := Fld.keep gc6 K13 nin0
  have F21 := Fld.keep gt6 K13 nin0
  refine own_go (B := (T13.setTop (mkF m 107 #[.val (.long p0), .second, .val (.long p1), .second, .val (.long p2), .second, iv p3, iv p4, iv p5, .val (.double z10), .second, .val (.long z29), .second, .val (.long z36), .second, .val (.double z53), .second, iv z74, .val (.long z80), .second, .val (.long z90), .second, .unset, .unset, .unset, .unset, .unset, .unset, .unset, .unset] [(.ref ra13)]))) st13 ?_
  obtain ⟨cq22, kq22, qa22, qb22, qc22⟩ := isOf hZ rfl Ex13
  obtain ⟨_, _, ⟨T22, L22, k22, n22⟩, -, X22, ⟨Lc22, hQ22, l22, yy22, zz22⟩, st22⟩ := X13.virtualBack hx (y := own_y4) (z := own_y4) hown (mvT hZ w_35) (mvT hZ w_36) (notFace_of_selects (args := #[]) (mvT hZ w_38)) (mvT hZ w_38) (mvT hZ w_37) (by decide) (backOf (W := 0) (own_av l Z a0 hw [] ra13 ((z36 * z80) + z90) z80 T13.heap n0 gc13 gt13) hZ w_39 w_6 (by decide) (by decide)) qa22 qc22 (g := (mkF m 107 #[.val (.long p0), .second, .val (.long p1), .second, .val (.long p2), .second, iv p3, iv p4, iv p5, .val (.double z10), .second, .val (.long z29), .second, .val (.long z36), .second, .val (.double z53), .second, iv z74, .val (.long z80), .second, .val (.long z90), .second, .unset, .unset, .unset, .unset, .unset, .unset, .unset, .unset] [(.ref ra13)])) rfl (by rw [hml]; rfl) (Steps.refl _) (argsL := []) (rest := []) (lenOf own_pd4 rfl) rfl (by show 2 * 0 + _ ≤ _; exact own_b rfl) (hb hby at_107) (fun _ _ => ⟨rfl, rfl, (own_b rfl : 3 + 0 ≤ _), (own_b rfl : 24 + 0 ≤ _)⟩)
  dsimp only [Pt.U, Pt.locs, Pt.cells, Pt.slots] at X22 l22 yy22 zz22 st22 hQ22
  obtain ⟨rfl, Nq22, eq22⟩ := hQ22
  obtain ⟨L22, X22, N22⟩ := own_absC (K := 3) (K' := 24) X22 l22 yy22 zz22 N13 Nq22
  have e22 : T22.heap = T13.heap := eq22
  refine own_tr (B := (T22.setTop (mkF m 110 #[.val (.long p0), .second, .val (.long p1), .second, .val (.long p2), .second, iv p3, iv p4, iv p5, .val (.double z10), .second, .val (.long z29), .second, .val (.long z36), .second, .val (.double z53), .second, iv z74, .val (.long z80), .second, .val (.long z90), .second, .unset, .unset, .unset, .unset, .unset, .unset, .unset, .unset] [(.double (own_avg ((z36 * z80) + z90) z80))]))) st22 ?_
  obtain ⟨z110, hz110⟩ : ∃ z : UInt64, z = (own_avg ((z36 * z80) + z90) z80) := ⟨_, rfl⟩
  rw [← hz110]
  refine own_go (B := (T22.setTop (mkF m 112 #[.val (.long p0), .second, .val (.long p1), .second, .val (.long p2), .second, iv p3, iv p4, iv p5, .val (.double z10), .second, .val (.long z29), .second, .val (.long z36), .second, .val (.double z53), .second, iv z74, .val (.long z80), .second, .val (.long z90), .second, .val (.double z110), .second, .unset, .unset, .unset, .unset, .unset, .unset] []))) (fun t k => XS.dstore X22.here hx rfl (hb hby at_110) rfl (l' := #[.val (.long p0), .second, .val (.long p1), .second, .val (.long p2), .second, iv p3, iv p4, iv p5, .val (.double z10), .second, .val (.long z29), .second, .val (.long z36), .second, .val (.double z53), .second, iv z74, .val (.long z80), .second, .val (.long z90), .second, .val (.double z110), .second, .unset, .unset, .unset, .unset, .unset, .unset]) rfl k) ?_
  refine own_go (B := (T22.setTop (mkF m 114 #[.val (.long p0), .second, .val (.long p1), .second, .val (.long p2), .second, iv p3, iv p4, iv p5, .val (.double z10), .second, .val (.long z29), .second, .val (.long z36), .second, .val (.double z53), .second, iv z74, .val (.long z80), .second, .val (.long z90), .second, .val (.double z110), .second, .unset, .unset, .unset, .unset, .unset, .unset] [(.double z110)]))) (fun t k => XS.dload X22.here hx rfl (hb hby at_112) rfl k) ?_
  refine own_go (B := (T22.setTop (mkF m 116 #[.val (.long p0), .second, .val (.long p1), .second, .val (.long p2), .second, iv p3, iv p4, iv p5, .val (.double z10), .second, .val (.long z29), .second, .val (.long z36), .second, .val (.double z53), .second, iv z74, .val (.long z80), .second, .val (.long z90), .second, .val (.double z110), .second, .unset, .unset, .unset, .unset, .unset, .unset] [(.long z36), (.double z110)]))) (fun t k => XS.lload X22.here hx rfl (hb hby at_114) rfl k) ?_
  refine own_go (B := (T22.setTop (mkF m 117 #[.val (.long p0), .second, .val (.long p1), .second, .val (.long p2), .second, iv p3, iv p4, iv p5, .val (.double z10), .second, .val (.long z29), .second, .val (.long z36), .second, .val (.double z53), .second, iv z74, .val (.long z80), .second, .val (.long z90), .second, .val (.double z110), .second, .unset, .unset, .unset, .unset, .unset, .unset] [(.double (FP.l2d z36)), (.double z110)]))) (fun t k => XS.l2dS (x := z36) (v := (FP.l2d z36)) X22.here hx rfl (hb hby at_116) rfl rfl k) ?_
  refine own_go (B := (T22.setTop (mkF m 119 #[.val (.long p0), .second, .val (.long p1), .second, .val (.long p2), .second, iv p3, iv p4, iv p5, .val (.double z10), .second, .val (.long z29), .second, .val (.long z36), .second, .val (.double z53), .second, iv z74, .val (.long z80), .second, .val (.long z90), .second, .val (.double z110), .second, .unset, .unset, .unset, .unset, .unset, .unset] [(.long z90), (.double (FP.l2d z36)), (.double z110)]))) (fun t k => XS.lload X22.here hx rfl (hb hby at_117) rfl k) ?_
  refine own_go (B := (T22.setTop (mkF m 120 #[.val (.long p0), .second, .val (.long p1), .second, .val (.long p2), .second, iv p3, iv p4, iv p5, .val (.double z10), .second, .val (.long z29), .second, .val (.long z36), .second, .val (.double z53), .second, iv z74, .val (.long z80), .second, .val (.long z90), .second, .val (.double z110), .second, .unset, .unset, .unset, .unset, .unset, .unset] [(.double (FP.l2d z90)), (.double (FP.l2d z36)), (.double z110)]))) (fun t k => XS.l2dS (x := z90) (v := (FP.l2d z90)) X22.here hx rfl (hb hby at_119) rfl rfl k) ?_
  refine own_go (B := (T22.setTop (mkF m 122 #[.val (.long p0), .second, .val (.long p1), .second, .val (.long p2), .second, iv p3, iv p4, iv p5, .val (.double z10), .second, .val (.long z29), .second, .val (.long z36), .second, .val (.double z53), .second, iv z74, .val (.long z80), .second, .val (.long z90), .second, .val (.double z110), .second, .unset, .unset, .unset, .unset, .unset, .unset] [(.long z80), (.double (FP.l2d z90)), (.double (FP.l2d z36)), (.double z110)]))) (fun t k => XS.lload X22.here hx rfl (hb hby at_120) rfl k) ?_
  refine own_go (B := (T22.setTop (mkF m 123 #[.val (.long p0), .second, .val (.long p1), .second, .val (.long p2), .second, iv p3, iv p4, iv p5, .val (.double z10), .second, .val (.long z29), .second, .val (.long z36), .second, .val (.double z53), .second, iv z74, .val (.long z80), .second, .val (.long z90), .second, .val (.double z110), .second, .unset, .unset, .unset, .unset, .unset, .unset] [(.double (FP.l2d z80)), (.double (FP.l2d z90)), (.double (FP.l2d z36)), (.double z110)]))) (fun t k => XS.l2dS (x := z80) (v := (FP.l2d z80)) X22.here hx rfl (hb hby at_122) rfl rfl k) ?_
  refine own_go (B := (T22.setTop (mkF m 124 #[.val (.long p0), .second, .val (.long p1), .second, .val (.long p2), .second, iv p3, iv p4, iv p5, .val (.double z10), .second, .val (.long z29), .second, .val (.long z36), .second, .val (.double z53), .second, iv z74, .val (.long z80), .second, .val (.long z90), .second, .val (.double z110), .second, .unset, .unset, .unset, .unset, .unset, .unset] [(.double (FP.ddiv (FP.l2d z90) (FP.l2d z80))), (.double (FP.l2d z36)), (.double z110)]))) (fun t k => XS.ddivS (x := (FP.l2d z90)) (y := (FP.l2d z80)) (v := (FP.ddiv (FP.l2d z90) (FP.l2d z80))) X22.here hx rfl (hb hby at_123) rfl (own_t123 hz74 hz80 hz90) rfl k) ?_
  refine own_go (B := (T22.setTop (mkF m 125 #[.val (.long p0), .second, .val (.long p1), .second, .val (.long p2), .second, iv p3, iv p4, iv p5, .val (.double z10), .second, .val (.long z29), .second, .val (.long z36), .second, .val (.double z53), .second, iv z74, .val (.long z80), .second, .val (.long z90), .second, .val (.double z110), .second, .unset, .unset, .unset, .unset, .unset, .unset] [(.double (FP.dadd (FP.l2d z36) (FP.ddiv (FP.l2d z90) (FP.l2d z80)))), (.double z110)]))) (fun t k => XS.daddS (x := (FP.l2d z36)) (y := (FP.ddiv (FP.l2d z90) (FP.l2d z80))) (v := (FP.dadd (FP.l2d z36) (FP.ddiv (FP.l2d z90) (FP.l2d z80)))) X22.here hx rfl (hb hby at_124) rfl (own_t124 hz36 hz74 hz80 hz90) rfl k) ?_
  refine own_go (B := (T22.setTop (mkF m 126 #[.val (.long p0), .second, .val (.long p1), .second, .val (.long p2), .second, iv p3, iv p4, iv p5, .val (.double z10), .second, .val (.long z29), .second, .val (.long z36), .second, .val (.double z53), .second, iv z74, .val (.long z80), .second, .val (.long z90), .second, .val (.double z110), .second, .unset, .unset, .unset, .unset, .unset, .unset] [(.int (own_c z110 (FP.dadd (FP.l2d z36) (FP.ddiv (FP.l2d z90) (FP.l2d z80)))))]))) (fun t k => XS.dcmpS (x := z110) (y := (FP.dadd (FP.l2d z36) (FP.ddiv (FP.l2d z90) (FP.l2d z80)))) (v := (own_c z110 (FP.dadd (FP.l2d z36) (FP.ddiv (FP.l2d z90) (FP.l2d z80))))) X22.here hx rfl (hb hby at_125) rfl rfl k) ?_
  have hc126 : (own_c z110 (FP.dadd (FP.l2d z36) (FP.ddiv (FP.l2d z90) (FP.l2d z80)))) = (0 : Int32) := (own_t126 hz36 hz74 hz80 hz90 hz110)
  refine own_ifY X22 hx (hb hby at_126) (pc' := 131) (by decide) (by decide) hc126 ?_
  refine own_go (B := (T22.setTop (mkF m 132 #[.val (.long p0), .second, .val (.long p1), .second, .val (.long p2), .second, iv p3, iv p4, iv p5, .val (.double z10), .second, .val (.long z29), .second, .val (.long z36), .second, .val (.double z53), .second, iv z74, .val (.long z80), .second, .val (.long z90), .second, .val (.double z110), .second, .unset, .unset, .unset, .unset, .unset, .unset] [(.long p1)]))) (fun t k => XS.lloadN X22.here hx rfl (hb hby at_131) rfl k) ?_
  have lc23 := X22.ldc2Long hx hown (v := (9223372036854775807 : Int64)) (mvT hZ w_41) (g := (mkF m 132 #[.val (.long p0), .second, .val (.long p1), .second, .val (.long p2), .second, iv p3, iv p4, iv p5, .val (.double z10), .second, .val (.long z29), .second, .val (.long z36), .second, .val (.double z53), .second, iv z74, .val (.long z80), .second, .val (.long z90), .second, .val (.double z110), .second, .unset, .unset, .unset, .unset, .unset, .unset] [(.long p1)])) rfl (hb hby at_132)
  refine own_go (B := (T22.setTop (mkF m 135 #[.val (.long p0), .second, .val (.long p1), .second, .val (.long p2), .second, iv p3, iv p4, iv p5, .val (.double z10), .second, .val (.long z29), .second, .val (.long z36), .second, .val (.double z53), .second, iv z74, .val (.long z80), .second, .val (.long z90), .second, .val (.double z110), .second, .unset, .unset, .unset, .unset, .unset, .unset] [(.long (9223372036854775807 : Int64)), (.long p1)]))) lc23 ?_
  refine own_go (B := (T22.setTop (mkF m 136 #[.val (.long p0), .second, .val (.long p1), .second, .val (.long p2), .second, iv p3, iv p4, iv p5, .val (.double z10), .second, .val (.long z29), .second, .val (.long z36), .second, .val (.double z53), .second, iv z74, .val (.long z80), .second, .val (.long z90), .second, .val (.double z110), .second, .unset, .unset, .unset, .unset, .unset, .unset] [(.long (p1 &&& (9223372036854775807 : Int64)))]))) (fun t k => XS.land (x := p1) (y := (9223372036854775807 : Int64)) X22.here hx rfl (hb hby at_135) rfl k) ?_
  obtain ⟨z136, hz136⟩ : ∃ z : Int64, z = (p1 &&& (9223372036854775807 : Int64)) := ⟨_, rfl⟩
  rw [← hz136]
  refine own_go (B := (T22.setTop (mkF m 138 #[.val (.long p0), .second, .val (.long p1), .second, .val (.long p2), .second, iv p3, iv p4, iv p5, .val (.double z10), .second, .val (.long z29), .second, .val (.long z36), .second, .val (.double z53), .second, iv z74, .val (.long z80), .second, .val (.long z90), .second, .val (.double z110), .second, .val (.long z136), .second, .unset, .unset, .unset, .unset] []))) (fun t k => XS.lstore X22.here hx rfl (hb hby at_136) rfl (l' := #[.val (.long p0), .second, .val (.long p1), .second, .val (.long p2), .second, iv p3, iv p4, iv p5, .val (.double z10), .second, .val (.long z29), .second, .val (.long z36), .second, .val (.double z53), .second, iv z74, .val (.long z80), .second, .val (.long z90), .second, .val (.double z110), .second, .val (.long z136), .second, .unset, .unset, .unset, .unset]) rfl k) ?_
  refine own_go (B := (T22.setTop (mkF m 140 #[.val (.long p0), .second, .val (.long p1), .second, .val (.long p2), .second, iv p3, iv p4, iv p5, .val (.double z10), .second, .val (.long z29), .second, .val (.long z36), .second, .val (.double z53), .second, iv z74, .val (.long z80), .second, .val (.long z90), .second, .val (.double z110), .second, .val (.long z136), .second, .unset, .unset, .unset, .unset] [(.long p2)]))) (fun t k => XS.lload X22.here hx rfl (hb hby at_138) rfl k) ?_
  refine own_go (B := (T22.setTop (mkF m 141 #[.val (.long p0), .second, .val (.long p1), .second, .val (.long p2), .second, iv p3, iv p4, iv p5, .val (.double z10), .second, .val (.long z29), .second, .val (.long z36), .second, .val (.double z53), .second, iv z74, .val (.long z80), .second, .val (.long z90), .second, .val (.double z110), .second, .val (.long z136), .second, .unset, .unset, .unset, .unset] [(.long p0), (.long p2)]))) (fun t k => XS.lloadN X22.here hx rfl (hb hby at_140) rfl k) ?_
  refine own_go (B := (T22.setTop (mkF m 143 #[.val (.long p0), .second, .val (.long p1), .second, .val (.long p2), .second, iv p3, iv p4, iv p5, .val (.double z10), .second, .val (.long z29), .second, .val (.long z36), .second, .val (.double z53), .second, iv z74, .val (.long z80), .second, .val (.long z90), .second, .val (.double z110), .second, .val (.long z136), .second, .unset, .unset, .unset, .unset] [(.long z136), (.long p0), (.long p2)]))) (fun t k => XS.lload X22.here hx rfl (hb hby at_141) rfl k) ?_
  obtain ⟨_, _, ⟨T24, L24, k24, n24⟩, -, X24, ⟨Lc24, hQ24, l24, yy24, zz24⟩, st24⟩ := Jvm.LawKit.callS X22 hx (y := own_y3) hown (mvT hZ w_0) (mvT hZ w_1) (mvT hZ w_2) (mvT hZ w_3) (by decide) (backOf (W := 0) (own_mk l Z a0 hw [] p2 p0 z136 T13.heap n0 F14) hZ w_3 w_2 (by decide) (by decide)) (g := (mkF m 143 #[.val (.long p0), .second, .val (.long p1), .second, .val (.long p2), .second, iv p3, iv p4, iv p5, .val (.double z10), .second, .val (.long z29), .second, .val (.long z36), .second, .val (.double z53), .second, iv z74, .val (.long z80), .second, .val (.long z90), .second, .val (.double z110), .second, .val (.long z136), .second, .unset, .unset, .unset, .unset] [(.long z136), (.long p0), (.long p2)])) rfl (by rw [hml]; rfl) (argsL := [(.long p2), (.long p0), (.long z136)]) (rest := []) (lenOf own_pd3 rfl) rfl (by show 2 * 0 + _ ≤ _; exact own_b rfl) (hb hby at_143) (fun _ _ => ⟨rfl, e22, (own_b rfl : 3 + 1 ≤ _), (own_b rfl : 24 + 8 ≤ _)⟩)
  dsimp only [Pt.U, Pt.locs, Pt.cells, Pt.slots] at X24 l24 yy24 zz24 st24 hQ24
  obtain ⟨ra24, rfl, Nq24, K24, Ex24, gc24, gt24⟩ := hQ24
  obtain ⟨L24, X24, N24⟩ := own_absC (K := 4) (K' := 32) X24 l24 yy24 zz24 N22 Nq24
  have F25 : n0 ≤ T24.heap.size := Nat.le_trans F14 K24.1
  have F26 := Keep.trans F15 K24 all0
  have F27 := Exa.keep F16 K24
  have F28 := Fld.keep F17 K24 nin0
  have F29 := Fld.keep F18 K24 nin0
  have F30 := Exa.keep F19 K24
  have F31 := Fld.keep F20 K24 nin0
  have F32 := Fld.keep F21 K24 nin0
  have F33 := Exa.keep Ex13 K24
  have F34 := Fld.keep gc13 K24 nin0
  have F35 := Fld.keep gt13 K24 nin0
  refine own_go (B := (T24.setTop (mkF m 146 #[.val (.long p0), .second, .val (.long p1), .second, .val (.long p2), .second, iv p3, iv p4, iv p5, .val (.double z10), .second, .val (.long z29), .second, .val (.long z36), .second, .val (.double z53), .second, iv z74, .val (.long z80), .second, .val (.long z90), .second, .val (.double z110), .second, .val (.long z136), .second, .unset, .unset, .unset, .unset] [(.ref ra24)]))) st24 ?_
  obtain ⟨cq36, kq36, qa36, qb36, qc36⟩ := isOf hZ rfl Ex24
  obtain ⟨_, _, ⟨T36, L36, k36, n36⟩, -, X36, ⟨Lc36, hQ36, l36, yy36, zz36⟩, st36⟩ := X24.virtualBack hx (y := own_y4) (z := own_y4) hown (mvT hZ w_35) (mvT hZ w_36) (notFace_of_selects (args := #[]) (mvT hZ w_38)) (mvT hZ w_38) (mvT hZ w_37) (by decide) (backOf (W := 0) (own_av l Z a0 hw [] ra24 p0 z136 T24.heap n0 gc24 gt24) hZ w_39 w_6 (by decide) (by decide)) qa36 qc36 (g := (mkF m 146 #[.val (.long p0), .second, .val (.long p1), .second, .val (.long p2), .second, iv p3, iv p4, iv p5, .val (.double z10), .second, .val (.long z29), .second, .val (.long z36), .second, .val (.double z53), .second, iv z74, .val (.long z80), .second, .val (.long z90), .second, .val (.double z110), .second, .val (.long z136), .second, .unset, .unset, .unset, .unset] [(.ref ra24)])) rfl (by rw [hml]; rfl) (Steps.refl _) (argsL := []) (rest := []) (lenOf own_pd4 rfl) rfl (by show 2 * 0 + _ ≤ _; exact own_b rfl) (hb hby at_146) (fun _ _ => ⟨rfl, rfl, (own_b rfl : 4 + 0 ≤ _), (own_b rfl : 32 + 0 ≤ _)⟩)
  dsimp only [Pt.U, Pt.locs, Pt.cells, Pt.slots] at X36 l36 yy36 zz36 st36 hQ36
  obtain ⟨rfl, Nq36, eq36⟩ := hQ36
  obtain ⟨L36, X36, N36⟩ := own_absC (K := 4) (K' := 32) X36 l36 yy36 zz36 N24 Nq36
  have e36 : T36.heap = T24.heap := eq36
  refine own_tr (B := (T36.setTop (mkF m 149 #[.val (.long p0), .second, .val (.long p1), .second, .val (.long p2), .second, iv p3, iv p4, iv p5, .val (.double z10), .second, .val (.long z29), .second, .val (.long z36), .second, .val (.double z53), .second, iv z74, .val (.long z80), .second, .val (.long z90), .second, .val (.double z110), .second, .val (.long z136), .second, .unset, .unset, .unset, .unset] [(.double (own_avg p0 z136))]))) st36 ?_
  obtain ⟨z149, hz149⟩ : ∃ z : UInt64, z = (own_avg p0 z136) := ⟨_, rfl⟩
  rw [← hz149]
  refine own_go (B := (T36.setTop (mkF m 151 #[.val (.long p0), .second, .val (.long p1), .second, .val (.long p2), .second, iv p3, iv p4, iv p5, .val (.double z10), .second, .val (.long z29), .second, .val (.long z36), .second, .val (.double z53), .second, iv z74, .val (.long z80), .second, .val (.long z90), .second, .val (.double z110), .second, .val (.long z136), .second, .val (.double z149), .second, .unset, .unset] []))) (fun t k => XS.dstore X36.here hx rfl (hb hby at_149) rfl (l' := #[.val (.long p0), .second, .val (.long p1), .second, .val (.long p2), .second, iv p3, iv p4, iv p5, .val (.double z10), .second, .val (.long z29), .second, .val (.long z36), .second, .val (.double z53), .second, iv z74, .val (.long z80), .second, .val (.long z90), .second, .val (.double z110), .second, .val (.long z136), .second, .val (.double z149), .second, .unset, .unset]) rfl k) ?_
  refine own_go (B := (T36.setTop (mkF m 153 #[.val (.long p0), .second, .val (.long p1), .second, .val (.long p2), .second, iv p3, iv p4, iv p5, .val (.double z10), .second, .val (.long z29), .second, .val (.long z36), .second, .val (.double z53), .second, iv z74, .val (.long z80), .second, .val (.long z90), .second, .val (.double z110), .second, .val (.long z136), .second, .val (.double z149), .second, .unset, .unset] [(.long z136)]))) (fun t k => XS.lload X36.here hx rfl (hb hby at_151) rfl k) ?_
  refine own_go (B := (T36.setTop (mkF m 154 #[.val (.long p0), .second, .val (.long p1), .second, .val (.long p2), .second, iv p3, iv p4, iv p5, .val (.double z10), .second, .val (.long z29), .second, .val (.long z36), .second, .val (.double z53), .second, iv z74, .val (.long z80), .second, .val (.long z90), .second, .val (.double z110), .second, .val (.long z136), .second, .val (.double z149), .second, .unset, .unset] [(.long (0 : Int64)), (.long z136)]))) (fun t k => XS.lconst X36.here hx rfl (hb hby at_153) k) ?_
  refine own_go (B := (T36.setTop (mkF m 155 #[.val (.long p0), .second, .val (.long p1), .second, .val (.long p2), .second, iv p3, iv p4, iv p5, .val (.double z10), .second, .val (.long z29), .second, .val (.long z36), .second, .val (.double z53), .second, iv z74, .val (.long z80), .second, .val (.long z90), .second, .val (.double z110), .second, .val (.long z136), .second, .val (.double z149), .second, .unset, .unset] [(.int (lcmpW z136 (0 : Int64)))]))) (fun t k => XS.lcmp (x := z136) (y := (0 : Int64)) X36.here hx rfl (hb hby at_154) rfl k) ?_
  refine own_lif X36 hx (hb hby at_155) (pc' := 171) (pn := 158) (by decide) (by decide) rfl (fun (hc155 : ¬ z136 = (0 : Int64)) => ?_) (fun (hc155 : z136 = (0 : Int64)) => ?_)
  · refine own_go (B := (T36.setTop (mkF m 172 #[.val (.long p0), .second, .val (.long p1), .second, .val (.long p2), .second, iv p3, iv p4, iv p5, .val (.double z10), .second, .val (.long z29), .second, .val (.long z36), .second, .val (.double z53), .second, iv z74, .val (.long z80), .second, .val (.long z90), .second, .val (.double z110), .second, .val (.long z136), .second, .val (.double z149), .second, .unset, .unset] [(.long p0)]))) (fun t k => XS.lloadN X36.here hx rfl (hb hby at_171) rfl k) ?_
    refine own_go (B := (T36.setTop (mkF m 173 #[.val (.long p0), .second, .val (.long p1), .second, .val (.long p2), .second, iv p3, iv p4, iv p5, .val (.double z10), .second, .val (.long z29), .second, .val (.long z36), .second, .val (.double z53), .second, iv z74, .val (.long z80), .second, .val (.long z90), .second, .val (.double z110), .second, .val (.long z136), .second, .val (.double z149), .second, .unset, .unset] [(.double (FP.l2d p0))]))) (fun t k => XS.l2dS (x := p0) (v := (FP.l2d p0)) X36.here hx rfl (hb hby at_172) rfl rfl k) ?_
    obtain ⟨z173, hz173⟩ : ∃ z : UInt64, z = (FP.l2d p0) := ⟨_, rfl⟩
    rw [← hz173]
    refine own_go (B := (T36.setTop (mkF m 175 #[.val (.long p0), .second, .val (.long p1), .second, .val (.long p2), .second, iv p3, iv p4, iv p5, .val (.double z10), .second, .val (.long z29), .second, .val (.long z36), .second, .val (.double z53), .second, iv z74, .val (.long z80), .second, .val (.long z90), .second, .val (.double z110), .second, .val (.long z136), .second, .val (.double z149), .second, .val (.double z173), .second] []))) (fun t k => XS.dstore X36.here hx rfl (hb hby at_173) rfl (l' := #[.val (.long p0), .second, .val (.long p1), .second, .val (.long p2), .second, iv p3, iv p4, iv p5, .val (.double z10), .second, .val (.long z29), .second, .val (.long z36), .second, .val (.double z53), .second, iv z74, .val (.long z80), .second, .val (.long z90), .second, .val (.double z110), .second, .val (.long z136), .second, .val (.double z149), .second, .val (.double z173), .second]) rfl k) ?_
    refine own_go (B := (T36.setTop (mkF m 177 #[.val (.long p0), .second, .val (.long p1), .second, .val (.long p2), .second, iv p3, iv p4, iv p5, .val (.double z10), .second, .val (.long z29), .second, .val (.long z36), .second, .val (.double z53), .second, iv z74, .val (.long z80), .second, .val (.long z90), .second, .val (.double z110), .second, .val (.long z136), .second, .val (.double z149), .second, .val (.double z173), .second] [(.long z136)]))) (fun t k => XS.lload X36.here hx rfl (hb hby at_175) rfl k) ?_
    refine own_go (B := (T36.setTop (mkF m 178 #[.val (.long p0), .second, .val (.long p1), .second, .val (.long p2), .second, iv p3, iv p4, iv p5, .val (.double z10), .second, .val (.long z29), .second, .val (.long z36), .second, .val (.double z53), .second, iv z74, .val (.long z80), .second, .val (.long z90), .second, .val (.double z110), .second, .val (.long z136), .second, .val (.double z149), .second, .val (.double z173), .second] [(.long (1 : Int64)), (.long z136)]))) (fun t k => XS.lconst X36.here hx rfl (hb hby at_177) k) ?_
    refine own_go (B := (T36.setTop (mkF m 179 #[.val (.long p0), .second, .val (.long p1), .second, .val (.long p2), .second, iv p3, iv p4, iv p5, .val (.double z10), .second, .val (.long z29), .second, .val (.long z36), .second, .val (.double z53), .second, iv z74, .val (.long z80), .second, .val (.long z90), .second, .val (.double z110), .second, .val (.long z136), .second, .val (.double z149), .second, .val (.double z173), .second] [(.int (lcmpW z136 (1 : Int64)))]))) (fun t k => XS.lcmp (x := z136) (y := (1 : Int64)) X36.here hx rfl (hb hby at_178) rfl k) ?_
    refine own_lif X36 hx (hb hby at_179) (pc' := 192) (pn := 182) (by decide) (by decide) rfl (fun (hc179 : ¬ z136 = (1 : Int64)) => ?_) (fun (hc179 : z136 = (1 : Int64)) => ?_)
    · refine own_go (B := (T36.setTop (mkF m 193 #[.val (.long p0), .second, .val (.long p1), .second, .val (.long p2), .second, iv p3, iv p4, iv p5, .val (.double z10), .second, .val (.long z29), .second, .val (.long z36), .second, .val (.double z53), .second, iv z74, .val (.long z80), .second, .val (.long z90), .second, .val (.double z110), .second, .val (.long z136), .second, .val (.double z149), .second, .val (.double z173), .second] [(.long p0)]))) (fun t k => XS.lloadN X36.here hx rfl (hb hby at_192) rfl k) ?_
      refine own_go (B := (T36.setTop (mkF m 194 #[.val (.long p0), .second, .val (.long p1), .second, .val (.long p2), .second, iv p3, iv p4, iv p5, .val (.double z10), .second, .val (.long z29), .second, .val (.long z36), .second, .val (.double z53), .second, iv z74, .val (.long z80), .second, .val (.long z90), .second, .val (.double z110), .second, .val (.long z136), .second, .val (.double z149), .second, .val (.double z173), .second] [(.long (0 : Int64)), (.long p0)]))) (fun t k => XS.lconst X36.here hx rfl (hb hby at_193) k) ?_
      refine own_go (B := (T36.setTop (mkF m 195 #[.val (.long p0), .second, .val (.long p1), .second, .val (.long p2), .second, iv p3, iv p4, iv p5, .val (.double z10), .second, .val (.long z29), .second, .val (.long z36), .second, .val (.double z53), .second, iv z74, .val (.long z80), .second, .val (.long z90), .second, .val (.double z110), .second, .val (.long z136), .second, .val (.double z149), .second, .val (.double z173), .second] [(.int (lcmpW p0 (0 : Int64)))]))) (fun t k => XS.lcmp (x := p0) (y := (0 : Int64)) X36.here hx rfl (hb hby at_194) rfl k) ?_
      refine own_lif X36 hx (hb hby at_195) (pc' := 219) (pn := 198) (by decide) (by decide) rfl (fun (hc195 : ¬ (0 : Int64) < p0) => ?_) (fun (hc195 : (0 : Int64) < p0) => ?_)
      · refine own_go (B := (T36.setTop (mkF m 220 #[.val (.long p0), .second, .val (.long p1), .second, .val (.long p2), .second, iv p3, iv p4, iv p5, .val (.double z10), .second, .val (.long z29), .second, .val (.long z36), .second, .val (.double z53), .second, iv z74, .val (.long z80), .second, .val (.long z90), .second, .val (.double z110), .second, .val (.long z136), .second, .val (.double z149), .second, .val (.double z173), .second] [(.long p0)]))) (fun t k => XS.lloadN X36.here hx rfl (hb hby at_219) rfl k) ?_
        refine own_go (B := (T36.setTop (mkF m 221 #[.val (.long p0), .second, .val (.long p1), .second, .val (.long p2), .second, iv p3, iv p4, iv p5, .val (.double z10), .second, .val (.long z29), .second, .val (.long z36), .second, .val (.double z53), .second, iv z74, .val (.long z80), .second, .val (.long z90), .second, .val (.double z110), .second, .val (.long z136), .second, .val (.double z149), .second, .val (.double z173), .second] [(.long (0 : Int64)), (.long p0)]))) (fun t k => XS.lconst X36.here hx rfl (hb hby at_220) k) ?_
        refine own_go (B := (T36.setTop (mkF m 222 #[.val (.long p0), .second, .val (.long p1), .second, .val (.long p2), .second, iv p3, iv p4, iv p5, .val (.double z10), .second, .val (.long z29), .second, .val (.long z36), .second, .val (.double z53), .second, iv z74, .val (.long z80), .second, .val (.long z90), .second, .val (.double z110), .second, .val (.long z136), .second, .val (.double z149), .second, .val (.double z173), .second] [(.int (lcmpW p0 (0 : Int64)))]))) (fun t k => XS.lcmp (x := p0) (y := (0 : Int64)) X36.here hx rfl (hb hby at_221) rfl k) ?_
        refine own_lif X36 hx (hb hby at_222) (pc' := 246) (pn := 225) (by decide) (by decide) rfl (fun (hc222 : ¬ p0 < (0 : Int64)) => ?_) (fun (hc222 : p0 < (0 : Int64)) => ?_)
        · refine own_go (B := (T36.setTop (mkF m 248 #[.val (.long p0), .second, .val (.long p1), .second, .val (.long p2), .second, iv p3, iv p4, iv p5, .val (.double z10), .second, .val (.long z29), .second, .val (.long z36), .second, .val (.double z53), .second, iv z74, .val (.long z80), .second, .val (.long z90), .second, .val (.double z110), .second, .val (.long z136), .second, .val (.double z149), .second, .val (.double z173), .second] [(.double z149)]))) (fun t k => XS.dload X36.here hx rfl (hb hby at_246) rfl k) ?_
          refine own_go (B := (T36.setTop (mkF m 249 #[.val (.long p0), .second, .val (.long p1), .second, .val (.long p2), .second, iv p3, iv p4, iv p5, .val (.double z10), .second, .val (.long z29), .second, .val (.long z36), .second, .val (.double z53), .second, iv z74, .val (.long z80), .second, .val (.long z90), .second, .val (.double z110), .second, .val (.long z136), .second, .val (.double z149), .second, .val (.double z173), .second] [(.double (0 : UInt64)), (.double z149)]))) (fun t k => XS.dconst0 (v := (0 : UInt64)) X36.here hx rfl (hb hby at_248) rfl k) ?_
          refine own_go (B := (T36.setTop (mkF m 250 #[.val (.long p0), .second, .val (.long p1), .second, .val (.long p2), .second, iv p3, iv p4, iv p5, .val (.double z10), .second, .val (.long z29), .second, .val (.long z36), .second, .val (.double z53), .second, iv z74, .val (.long z80), .second, .val (.long z90), .second, .val (.double z110), .second, .val (.long z136), .second, .val (.double z149), .second, .val (.double z173), .second] [(.int (own_c z149 (0 : UInt64)))]))) (fun t k => XS.dcmpS (x := z149) (y := (0 : UInt64)) (v := (own_c z149 (0 : UInt64))) X36.here hx rfl (hb hby at_249) rfl rfl k) ?_
          have hc250 : (own_c z149 (0 : UInt64)) = (0 : Int32) := (own_t250 hz136 hc155 hz149 hc195 hc222)
          refine own_ifN X36 hx (hb hby at_250) (pn := 253) rfl hc250 ?_
          refine own_go (B := (T36.setTop (mkF m 254 #[.val (.long p0), .second, .val (.long p1), .second, .val (.long p2), .second, iv p3, iv p4, iv p5, .val (.double z10), .second, .val (.long z29), .second, .val (.long z36), .second, .val (.double z53), .second, iv z74, .val (.long z80), .second, .val (.long z90), .second, .val (.double z110), .second, .val (.long z136), .second, .val (.double z149), .second, .val (.double z173), .second] [(.int (1 : Int32))]))) (fun t k => own_iconst (v := (1 : Int32)) X36.here hx rfl (hb hby at_253) (by decide) k) ?_
          refine own_go (B := (T36.setTop (mkF m 258 #[.val (.long p0), .second, .val (.long p1), .second, .val (.long p2), .second, iv p3, iv p4, iv p5, .val (.double z10), .second, .val (.long z29), .second, .val (.long z36), .second, .val (.double z53), .second, iv z74, .val (.long z80), .second, .val (.long z90), .second, .val (.double z110), .second, .val (.long z136), .second, .val (.double z149), .second, .val (.double z173), .second] [(.int (1 : Int32))]))) (fun t k => XS.goto X36.here hx rfl (pc0 := 254) (pc' := 258) rfl (hb hby at_254) (by decide) (by decide) k) ?_
          exact own_retZ X36 hx hlk Bd.returns (hb hby at_258) (by decide) (own_b rfl) (own_b rfl) (Q := (own_law_Q Z p0 p1 p2 p3 p4 p5 h0 n0)) ⟨rfl, N36⟩
        · refine own_go (B := (T36.setTop (mkF m 227 #[.val (.long p0), .second, .val (.long p1), .second, .val (.long p2), .second, iv p3, iv p4, iv p5, .val (.double z10), .second, .val (.long z29), .second, .val (.long z36), .second, .val (.double z53), .second, iv z74, .val (.long z80), .second, .val (.long z90), .second, .val (.double z110), .second, .val (.long z136), .second, .val (.double z149), .second, .val (.double z173), .second] [(.double z173)]))) (fun t k => XS.dload X36.here hx rfl (hb hby at_225) rfl k) ?_
          refine own_go (B := (T36.setTop (mkF m 229 #[.val (.long p0), .second, .val (.long p1), .second, .val (.long p2), .second, iv p3, iv p4, iv p5, .val (.double z10), .second, .val (.long z29), .second, .val (.long z36), .second, .val (.double z53), .second, iv z74, .val (.long z80), .second, .val (.long z90), .second, .val (.double z110), .second, .val (.long z136), .second, .val (.double z149), .second, .val (.double z173), .second] [(.double z149), (.double z173)]))) (fun t k => XS.dload X36.here hx rfl (hb hby at_227) rfl k) ?_
          refine own_go (B := (T36.setTop (mkF m 230 #[.val (.long p0), .second, .val (.long p1), .second, .val (.long p2), .second, iv p3, iv p4, iv p5, .val (.double z10), .second, .val (.long z29), .second, .val (.long z36), .second, .val (.double z53), .second, iv z74, .val (.long z80), .second, .val (.long z90), .second, .val (.double z110), .second, .val (.long z136), .second, .val (.double z149), .second, .val (.double z173), .second] [(.int (own_cg z173 z149))]))) (fun t k => XS.dcmpS (x := z173) (y := z149) (v := (own_cg z173 z149)) X36.here hx rfl (hb hby at_229) rfl rfl k) ?_
          have hc230 : ¬ (0 : Int32) < (own_cg z173 z149) := (own_t230 hz136 hc155 hz149 hc222 hz173)
          refine own_ifN X36 hx (hb hby at_230) (pn := 233) rfl hc230 ?_
          refine own_go (B := (T36.setTop (mkF m 235 #[.val (.long p0), .second, .val (.long p1), .second, .val (.long p2), .second, iv p3, iv p4, iv p5, .val (.double z10), .second, .val (.long z29), .second, .val (.long z36), .second, .val (.double z53), .second, iv z74, .val (.long z80), .second, .val (.long z90), .second, .val (.double z110), .second, .val (.long z136), .second, .val (.double z149), .second, .val (.double z173), .second] [(.double z149)]))) (fun t k => XS.dload X36.here hx rfl (hb hby at_233) rfl k) ?_
          refine own_go (B := (T36.setTop (mkF m 236 #[.val (.long p0), .second, .val (.long p1), .second, .val (.long p2), .second, iv p3, iv p4, iv p5, .val (.double z10), .second, .val (.long z29), .second, .val (.long z36), .second, .val (.double z53), .second, iv z74, .val (.long z80), .second, .val (.long z90), .second, .val (.double z110), .second, .val (.long z136), .second, .val (.double z149), .second, .val (.double z173), .second] [(.double (0 : UInt64)), (.double z149)]))) (fun t k => XS.dconst0 (v := (0 : UInt64)) X36.here hx rfl (hb hby at_235) rfl k) ?_
          refine own_go (B := (T36.setTop (mkF m 237 #[.val (.long p0), .second, .val (.long p1), .second, .val (.long p2), .second, iv p3, iv p4, iv p5, .val (.double z10), .second, .val (.long z29), .second, .val (.long z36), .second, .val (.double z53), .second, iv z74, .val (.long z80), .second, .val (.long z90), .second, .val (.double z110), .second, .val (.long z136), .second, .val (.double z149), .second, .val (.double z173), .second] [(.int (own_cg z149 (0 : UInt64)))]))) (fun t k => XS.dcmpS (x := z149) (y := (0 : UInt64)) (v := (own_cg z149 (0 : UInt64))) X36.here hx rfl (hb hby at_236) rfl rfl k) ?_
          have hc237 : (own_cg z149 (0 : UInt64)) < (0 : Int32) := (own_t237 hz136 hc155 hz149 hc222)
          refine own_ifN X36 hx (hb hby at_237) (pn := 240) rfl hc237 ?_
          refine own_go (B := (T36.setTop (mkF m 241 #[.val (.long p0), .second, .val (.long p1), .second, .val (.long p2), .second, iv p3, iv p4, iv p5, .val (.double z10), .second, .val (.long z29), .second, .val (.long z36), .second, .val (.double z53), .second, iv z74, .val (.long z80), .second, .val (.long z90), .second, .val (.double z110), .second, .val (.long z136), .second, .val (.double z149), .second, .val (.double z173), .second] [(.int (1 : Int32))]))) (fun t k => own_iconst (v := (1 : Int32)) X36.here hx rfl (hb hby at_240) (by decide) k) ?_
          refine own_go (B := (T36.setTop (mkF m 245 #[.val (.long p0), .second, .val (.long p1), .second, .val (.long p2), .second, iv p3, iv p4, iv p5, .val (.double z10), .second, .val (.long z29), .second, .val (.long z36), .second, .val (.double z53), .second, iv z74, .val (.long z80), .second, .val (.long z90), .second, .val (.double z110), .second, .val (.long z136), .second, .val (.double z149), .second, .val (.double z173), .second] [(.int (1 : Int32))]))) (fun t k => XS.goto X36.here hx rfl (pc0 := 241) (pc' := 245) rfl (hb hby at_241) (by decide) (by decide) k) ?_
          exact own_retZ X36 hx hlk Bd.returns (hb hby at_245) (by decide) (own_b rfl) (own_b rfl) (Q := (own_law_Q Z p0 p1 p2 p3 p4 p5 h0 n0)) ⟨rfl, N36⟩
      · refine own_go (B := (T36.setTop (mkF m 199 #[.val (.long p0), .second, .val (.long p1), .second, .val (.long p2), .second, iv p3, iv p4, iv p5, .val (.double z10), .second, .val (.long z29), .second, .val (.long z36), .second, .val (.double z53), .second, iv z74, .val (.long z80), .second, .val (.long z90), .second, .val (.double z110), .second, .val (.long z136), .second, .val (.double z149), .second, .val (.double z173), .second] [(.double (0 : UInt64))]))) (fun t k => XS.dconst0 (v := (0 : UInt64)) X36.here hx rfl (hb hby at_198) rfl k) ?_
        refine own_go (B := (T36.setTop (mkF m 201 #[.val (.long p0), .second, .val (.long p1), .second, .val (.long p2), .second, iv p3, iv p4, iv p5, .val (.double z10), .second, .val (.long z29), .second, .val (.long z36), .second, .val (.double z53), .second, iv z74, .val (.long z80), .second, .val (.long z90), .second, .val (.double z110), .second, .val (.long z136), .second, .val (.double z149), .second, .val (.double z173), .second] [(.double z149), (.double (0 : UInt64))]))) (fun t k => XS.dload X36.here hx rfl (hb hby at_199) rfl k) ?_
        refine own_go (B := (T36.setTop (mkF m 202 #[.val (.long p0), .second, .val (.long p1), .second, .val (.long p2), .second, iv p3, iv p4, iv p5, .val (.double z10), .second, .val (.long z29), .second, .val (.long z36), .second, .val (.double z53), .second, iv z74, .val (.long z80), .second, .val (.long z90), .second, .val (.double z110), .second, .val (.long z136), .second, .val (.double z149), .second, .val (.double z173), .second] [(.int (own_cg (0 : UInt64) z149))]))) (fun t k => XS.dcmpS (x := (0 : UInt64)) (y := z149) (v := (own_cg (0 : UInt64) z149)) X36.here hx rfl (hb hby at_201) rfl rfl k) ?_
        have hc202 : (own_cg (0 : UInt64) z149) < (0 : Int32) := (own_t202 hz136 hc155 hz149 hc195)
        refine own_ifN X36 hx (hb hby at_202) (pn := 205) rfl hc202 ?_
        refine own_go (B := (T36.setTop (mkF m 207 #[.val (.long p0), .second, .val (.long p1), .second, .val (.long p2), .second, iv p3, iv p4, iv p5, .val (.double z10), .second, .val (.long z29), .second, .val (.long z36), .second, .val (.double z53), .second, iv z74, .val (.long z80), .second, .val (.long z90), .second, .val (.double z110), .second, .val (.long z136), .second, .val (.double z149), .second, .val (.double z173), .second] [(.double z149)]))) (fun t k => XS.dload X36.here hx rfl (hb hby at_205) rfl k) ?_
        refine own_go (B := (T36.setTop (mkF m 209 #[.val (.long p0), .second, .val (.long p1), .second, .val (.long p2), .second, iv p3, iv p4, iv p5, .val (.double z10), .second, .val (.long z29), .second, .val (.long z36), .second, .val (.double z53), .second, iv z74, .val (.long z80), .second, .val (.long z90), .second, .val (.double z110), .second, .val (.long z136), .second, .val (.double z149), .second, .val (.double z173), .second] [(.double z173), (.double z149)]))) (fun t k => XS.dload X36.here hx rfl (hb hby at_207) rfl k) ?_
        refine own_go (B := (T36.setTop (mkF m 210 #[.val (.long p0), .second, .val (.long p1), .second, .val (.long p2), .second, iv p3, iv p4, iv p5, .val (.double z10), .second, .val (.long z29), .second, .val (.long z36), .second, .val (.double z53), .second, iv z74, .val (.long z80), .second, .val (.long z90), .second, .val (.double z110), .second, .val (.long z136), .second, .val (.double z149), .second, .val (.double z173), .second] [(.int (own_cg z149 z173))]))) (fun t k => XS.dcmpS (x := z149) (y := z173) (v := (own_cg z149 z173)) X36.here hx rfl (hb hby at_209) rfl rfl k) ?_
        have hc210 : ¬ (0 : Int32) < (own_cg z149 z173) := (own_t210 hz136 hc155 hz149 hc195 hz173)
        refine own_ifN X36 hx (hb hby at_210) (pn := 213) rfl hc210 ?_
        refine own_go (B := (T36.setTop (mkF m 214 #[.val (.long p0), .second, .val (.long p1), .second, .val (.long p2), .second, iv p3, iv p4, iv p5, .val (.double z10), .second, .val (.long z29), .second, .val (.long z36), .second, .val (.double z53), .second, iv z74, .val (.long z80), .second, .val (.long z90), .second, .val (.double z110), .second, .val (.long z136), .second, .val (.double z149), .second, .val (.double z173), .second] [(.int (1 : Int32))]))) (fun t k => own_iconst (v := (1 : Int32)) X36.here hx rfl (hb hby at_213) (by decide) k) ?_
        refine own_go (B := (T36.setTop (mkF m 218 #[.val (.long p0), .second, .val (.long p1), .second, .val (.long p2), .second, iv p3, iv p4, iv p5, .val (.double z10), .second, .val (.long z29), .second, .val (.long z36), .second, .val (.double z53), .second, iv z74, .val (.long z80), .second, .val (.long z90), .second, .val (.double z110), .second, .val (.long z136), .second, .val (.double z149), .second, .val (.double z173), .second] [(.int (1 : Int32))]))) (fun t k => XS.goto X36.here hx rfl (pc0 := 214) (pc' := 218) rfl (hb hby at_214) (by decide) (by decide) k) ?_
        exact own_retZ X36 hx hlk Bd.returns (hb hby at_218) (by decide) (own_b rfl) (own_b rfl) (Q := (own_law_Q Z p0 p1 p2 p3 p4 p5 h0 n0)) ⟨rfl, N36⟩
    · refine own_go (B := (T36.setTop (mkF m 184 #[.val (.long p0), .second, .val (.long p1), .second, .val (.long p2), .second, iv p3, iv p4, iv p5, .val (.double z10), .second, .val (.long z29), .second, .val (.long z36), .second, .val (.double z53), .second, iv z74, .val (.long z80), .second, .val (.long z90), .second, .val (.double z110), .second, .val (.long z136), .second, .val (.double z149), .second, .val (.double z173), .second] [(.double z149)]))) (fun t k => XS.dload X36.here hx rfl (hb hby at_182) rfl k) ?_
      refine own_go (B := (T36.setTop (mkF m 186 #[.val (.long p0), .second, .val (.long p1), .second, .val (.long p2), .second, iv p3, iv p4, iv p5, .val (.double z10), .second, .val (.long z29), .second, .val (.long z36), .second, .val (.double z53), .second, iv z74, .val (.long z80), .second, .val (.long z90), .second, .val (.double z110), .second, .val (.long z136), .second, .val (.double z149), .second, .val (.double z173), .second] [(.double z173), (.double z149)]))) (fun t k => XS.dload X36.here hx rfl (hb hby at_184) rfl k) ?_
      refine own_go (B := (T36.setTop (mkF m 187 #[.val (.long p0), .second, .val (.long p1), .second, .val (.long p2), .second, iv p3, iv p4, iv p5, .val (.double z10), .second, .val (.long z29), .second, .val (.long z36), .second, .val (.double z53), .second, iv z74, .val (.long z80), .second, .val (.long z90), .second, .val (.double z110), .second, .val (.long z136), .second, .val (.double z149), .second, .val (.double z173), .second] [(.int (own_c z149 z173))]))) (fun t k => XS.dcmpS (x := z149) (y := z173) (v := (own_c z149 z173)) X36.here hx rfl (hb hby at_186) rfl rfl k) ?_
      have hc187 : (own_c z149 z173) = (0 : Int32) := (own_t187 hc179 hz149 hz173)
      refine own_ifY X36 hx (hb hby at_187) (pc' := 192) (by decide) (by decide) hc187 ?_
      refine own_go (B := (T36.setTop (mkF m 193 #[.val (.long p0), .second, .val (.long p1), .second, .val (.long p2), .second, iv p3, iv p4, iv p5, .val (.double z10), .second, .val (.long z29), .second, .val (.long z36), .second, .val (.double z53), .second, iv z74, .val (.long z80), .second, .val (.long z90), .second, .val (.double z110), .second, .val (.long z136), .second, .val (.double z149), .second, .val (.double z173), .second] [(.long p0)]))) (fun t k => XS.lloadN X36.here hx rfl (hb hby at_192) rfl k) ?_
      refine own_go (B := (T36.setTop (mkF m 194 #[.val (.long p0), .second, .val (.long p1), .second, .val (.long p2), .second, iv p3, iv p4, iv p5, .val (.double z10), .second, .val (.long z29), .second, .val (.long z36), .second, .val (.double z53), .second, iv z74, .val (.long z80), .second, .val (.long z90), .second, .val (.double z110), .second, .val (.long z136), .second, .val (.double z149), .second, .val (.double z173), .second] [(.long (0 : Int64)), (.long p0)]))) (fun t k => XS.lconst X36.here hx rfl (hb hby at_193) k) ?_
      refine own_go (B := (T36.setTop (mkF m 195 #[.val (.long p0), .second, .val (.long p1), .second, .val (.long p2), .second, iv p3, iv p4, iv p5, .val (.double z10), .second, .val (.long z29), .second, .val (.long z36), .second, .val (.double z53), .second, iv z74, .val (.long z80), .second, .val (.long z90), .second, .val (.double z110), .second, .val (.long z136), .second, .val (.double z149), .second, .val (.double z173), .second] [(.int (lcmpW p0 (0 : Int64)))]))) (fun t k => XS.lcmp (x := p0) (y := (0 : Int64)) X36.here hx rfl (hb hby at_194) rfl k) ?_
      refine own_lif X36 hx (hb hby at_195) (pc' := 219) (pn := 198) (by decide) (by decide) rfl (fun (hc195 : ¬ (0 : Int64) < p0) => ?_) (fun (hc195 : (0 : Int64) < p0) => ?_)
      · refine own_go (B := (T36.setTop (mkF m 220 #[.val (.long p0), .second, .val (.long p1), .second, .val (.long p2), .second, iv p3, iv p4, iv p5, .val (.double z10), .second, .val (.long z29), .second, .val (.long z36), .second, .val (.double z53), .second, iv z74, .val (.long z80), .second, .val (.long z90), .second, .val (.double z110), .second, .val (.long z136), .second, .val (.double z149), .second, .val (.double z173), .second] [(.long p0)]))) (fun t k => XS.lloadN X36.here hx rfl (hb hby at_219) rfl k) ?_
        refine own_go (B := (T36.setTop (mkF m 221 #[.val (.long p0), .second, .val (.long p1), .second, .val (.long p2), .second, iv p3, iv p4, iv p5, .val (.double z10), .second, .val (.long z29), .second, .val (.long z36), .second, .val (.double z53), .second, iv z74, .val (.long z80), .second, .val (.long z90), .second, .val (.double z110), .second, .val (.long z136), .second, .val (.double z149), .second, .val (.double z173), .second] [(.long (0 : Int64)), (.long p0)]))) (fun t k => XS.lconst X36.here hx rfl (hb hby at_220) k) ?_
        refine own_go (B := (T36.setTop (mkF m 222 #[.val (.long p0), .second, .val (.long p1), .second, .val (.long p2), .second, iv p3, iv p4, iv p5, .val (.double z10), .second, .val (.long z29), .second, .val (.long z36), .second, .val (.double z53), .second, iv z74, .val (.long z80), .second, .val (.long z90), .second, .val (.double z110), .second, .val (.long z136), .second, .val (.double z149), .second, .val (.double z173), .second] [(.int (lcmpW p0 (0 : Int64)))]))) (fun t k => XS.lcmp (x := p0) (y := (0 : Int64)) X36.here hx rfl (hb hby at_221) rfl k) ?_
        refine own_lif X36 hx (hb hby at_222) (pc' := 246) (pn := 225) (by decide) (by decide) rfl (fun (hc222 : ¬ p0 < (0 : Int64)) => ?_) (fun (hc222 : p0 < (0 : Int64)) => ?_)
        · refine own_go (B := (T36.setTop (mkF m 248 #[.val (.long p0), .second, .val (.long p1), .second, .val (.long p2), .second, iv p3, iv p4, iv p5, .val (.double z10), .second, .val (.long z29), .second, .val (.long z36), .second, .val (.double z53), .second, iv z74, .val (.long z80), .second, .val (.long z90), .second, .val (.double z110), .second, .val (.long z136), .second, .val (.double z149), .second, .val (.double z173), .second] [(.double z149)]))) (fun t k => XS.dload X36.here hx rfl (hb hby at_246) rfl k) ?_
          refine own_go (B := (T36.setTop (mkF m 249 #[.val (.long p0), .second, .val (.long p1), .second, .val (.long p2), .second, iv p3, iv p4, iv p5, .val (.double z10), .second, .val (.long z29), .second, .val (.long z36), .second, .val (.double z53), .second, iv z74, .val (.long z80), .second, .val (.long z90), .second, .val (.double z110), .second, .val (.long z136), .second, .val (.double z149), .second, .val (.double z173), .second] [(.double (0 : UInt64)), (.double z149)]))) (fun t k => XS.dconst0 (v := (0 : UInt64)) X36.here hx rfl (hb hby at_248) rfl k) ?_
          refine own_go (B := (T36.setTop (mkF m 250 #[.val (.long p0), .second, .val (.long p1), .second, .val (.long p2), .second, iv p3, iv p4, iv p5, .val (.double z10), .second, .val (.long z29), .second, .val (.long z36), .second, .val (.double z53), .second, iv z74, .val (.long z80), .second, .val (.long z90), .second, .val (.double z110), .second, .val (.long z136), .second, .val (.double z149), .second, .val (.double z173), .second] [(.int (own_c z149 (0 : UInt64)))]))) (fun t k => XS.dcmpS (x := z149) (y := (0 : UInt64)) (v := (own_c z149 (0 : UInt64))) X36.here hx rfl (hb hby at_249) rfl rfl k) ?_
          have hc250 : (own_c z149 (0 : UInt64)) = (0 : Int32) := (own_t250 hz136 hc155 hz149 hc195 hc222)
          refine own_ifN X36 hx (hb hby at_250) (pn := 253) rfl hc250 ?_
          refine own_go (B := (T36.setTop (mkF m 254 #[.val (.long p0), .second, .val (.long p1), .second, .val (.long p2), .second, iv p3, iv p4, iv p5, .val (.double z10), .second, .val (.long z29), .second, .val (.long z36), .second, .val (.double z53), .second, iv z74, .val (.long z80), .second, .val (.long z90), .second, .val (.double z110), .second, .val (.long z136), .second, .val (.double z149), .second, .val (.double z173), .second] [(.int (1 : Int32))]))) (fun t k => own_iconst (v := (1 : Int32)) X36.here hx rfl (hb hby at_253) (by decide) k) ?_
          refine own_go (B := (T36.setTop (mkF m 258 #[.val (.long p0), .second, .val (.long p1), .second, .val (.long p2), .second, iv p3, iv p4, iv p5, .val (.double z10), .second, .val (.long z29), .second, .val (.long z36), .second, .val (.double z53), .second, iv z74, .val (.long z80), .second, .val (.long z90), .second, .val (.double z110), .second, .val (.long z136), .second, .val (.double z149), .second, .val (.double z173), .second] [(.int (1 : Int32))]))) (fun t k => XS.goto X36.here hx rfl (pc0 := 254) (pc' := 258) rfl (hb hby at_254) (by decide) (by decide) k) ?_
          exact own_retZ X36 hx hlk Bd.returns (hb hby at_258) (by decide) (own_b rfl) (own_b rfl) (Q := (own_law_Q Z p0 p1 p2 p3 p4 p5 h0 n0)) ⟨rfl, N36⟩
        · refine own_go (B := (T36.setTop (mkF m 227 #[.val (.long p0), .second, .val (.long p1), .second, .val (.long p2), .second, iv p3, iv p4, iv p5, .val (.double z10), .second, .val (.long z29), .second, .val (.long z36), .second, .val (.double z53), .second, iv z74, .val (.long z80), .second, .val (.long z90), .second, .val (.double z110), .second, .val (.long z136), .second, .val (.double z149), .second, .val (.double z173), .second] [(.double z173)]))) (fun t k => XS.dload X36.here hx rfl (hb hby at_225) rfl k) ?_
          refine own_go (B := (T36.setTop (mkF m 229 #[.val (.long p0), .second, .val (.long p1), .second, .val (.long p2), .second, iv p3, iv p4, iv p5, .val (.double z10), .second, .val (.long z29), .second, .val (.long z36), .second, .val (.double z53), .second, iv z74, .val (.long z80), .second, .val (.long z90), .second, .val (.double z110), .second, .val (.long z136), .second, .val (.double z149), .second, .val (.double z173), .second] [(.double z149), (.double z173)]))) (fun t k => XS.dload X36.here hx rfl (hb hby at_227) rfl k) ?_
          refine own_go (B := (T36.setTop (mkF m 230 #[.val (.long p0), .second, .val (.long p1), .second, .val (.long p2), .second, iv p3, iv p4, iv p5, .val (.double z10), .second, .val (.long z29), .second, .val (.long z36), .second, .val (.double z53), .second, iv z74, .val (.long z80), .second, .val (.long z90), .second, .val (.double z110), .second, .val (.long z136), .second, .val (.double z149), .second, .val (.double z173), .second] [(.int (own_cg z173 z149))]))) (fun t k => XS.dcmpS (x := z173) (y := z149) (v := (own_cg z173 z149)) X36.here hx rfl (hb hby at_229) rfl rfl k) ?_
          have hc230 : ¬ (0 : Int32) < (own_cg z173 z149) := (own_t230 hz136 hc155 hz149 hc222 hz173)
          refine own_ifN X36 hx (hb hby at_230) (pn := 233) rfl hc230 ?_
          refine own_go (B := (T36.setTop (mkF m 235 #[.val (.long p0), .second, .val (.long p1), .second, .val (.long p2), .second, iv p3, iv p4, iv p5, .val (.double z10), .second, .val (.long z29), .second, .val (.long z36), .second, .val (.double z53), .second, iv z74, .val (.long z80), .second, .val (.long z90), .second, .val (.double z110), .second, .val (.long z136), .second, .val (.double z149), .second, .val (.double z173), .second] [(.double z149)]))) (fun t k => XS.dload X36.here hx rfl (hb hby at_233) rfl k) ?_
          refine own_go (B := (T36.setTop (mkF m 236 #[.val (.long p0), .second, .val (.long p1), .second, .val (.long p2), .second, iv p3, iv p4, iv p5, .val (.double z10), .second, .val (.long z29), .second, .val (.long z36), .second, .val (.double z53), .second, iv z74, .val (.long z80), .second, .val (.long z90), .second, .val (.double z110), .second, .val (.long z136), .second, .val (.double z149), .second, .val (.double z173), .second] [(.double (0 : UInt64)), (.double z149)]))) (fun t k => XS.dconst0 (v := (0 : UInt64)) X36.here hx rfl (hb hby at_235) rfl k) ?_
          refine own_go (B := (T36.setTop (mkF m 237 #[.val (.long p0), .second, .val (.long p1), .second, .val (.long p2), .second, iv p3, iv p4, iv p5, .val (.double z10), .second, .val (.long z29), .second, .val (.long z36), .second, .val (.double z53), .second, iv z74, .val (.long z80), .second, .val (.long z90), .second, .val (.double z110), .second, .val (.long z136), .second, .val (.double z149), .second, .val (.double z173), .second] [(.int (own_cg z149 (0 : UInt64)))]))) (fun t k => XS.dcmpS (x := z149) (y := (0 : UInt64)) (v := (own_cg z149 (0 : UInt64))) X36.here hx rfl (hb hby at_236) rfl rfl k) ?_
          have hc237 : (own_cg z149 (0 : UInt64)) < (0 : Int32) := (own_t237 hz136 hc155 hz149 hc222)
          refine own_ifN X36 hx (hb hby at_237) (pn := 240) rfl hc237 ?_
          refine own_go (B := (T36.setTop (mkF m 241 #[.val (.long p0), .second, .val (.long p1), .second, .val (.long p2), .second, iv p3, iv p4, iv p5, .val (.double z10), .second, .val (.long z29), .second, .val (.long z36), .second, .val (.double z53), .second, iv z74, .val (.long z80), .second, .val (.long z90), .second, .val (.double z110), .second, .val (.long z136), .second, .val (.double z149), .second, .val (.double z173), .second] [(.int (1 : Int32))]))) (fun t k => own_iconst (v := (1 : Int32)) X36.here hx rfl (hb hby at_240) (by decide) k) ?_
          refine own_go (B := (T36.setTop (mkF m 245 #[.val (.long p0), .second, .val (.long p1), .second, .val (.long p2), .second, iv p3, iv p4, iv p5, .val (.double z10), .second, .val (.long z29), .second, .val (.long z36), .second, .val (.double z53), .second, iv z74, .val (.long z80), .second, .val (.long z90), .second, .val (.double z110), .second, .val (.long z136), .second, .val (.double z149), .second, .val (.double z173), .second] [(.int (1 : Int32))]))) (fun t k => XS.goto X36.here hx rfl (pc0 := 241) (pc' := 245) rfl (hb hby at_241) (by decide) (by decide) k) ?_
          exact own_retZ X36 hx hlk Bd.returns (hb hby at_245) (by decide) (own_b rfl) (own_b rfl) (Q := (own_law_Q Z p0 p1 p2 p3 p4 p5 h0 n0)) ⟨rfl, N36⟩
      · refine own_go (B := (T36.setTop (mkF m 199 #[.val (.long p0), .second, .val (.long p1), .second, .val (.long p2), .second, iv p3, iv p4, iv p5, .val (.double z10), .second, .val (.long z29), .second, .val (.long z36), .second, .val (.double z53), .second, iv z74, .val (.long z80), .second, .val (.long z90), .second, .val (.double z110), .second, .val (.long z136), .second, .val (.double z149), .second, .val (.double z173), .second] [(.double (0 : UInt64))]))) (fun t k => XS.dconst0 (v := (0 : UInt64)) X36.here hx rfl (hb hby at_198) rfl k) ?_
        refine own_go (B := (T36.setTop (mkF m 201 #[.val (.long p0), .second, .val (.long p1), .second, .val (.long p2), .second, iv p3, iv p4, iv p5, .val (.double z10), .second, .val (.long z29), .second, .val (.long z36), .second, .val (.double z53), .second, iv z74, .val (.long z80), .second, .val (.long z90), .second, .val (.double z110), .second, .val (.long z136), .second, .val (.double z149), .second, .val (.double z173), .second] [(.double z149), (.double (0 : UInt64))]))) (fun t k => XS.dload X36.here hx rfl (hb hby at_199) rfl k) ?_
        refine own_go (B := (T36.setTop (mkF m 202 #[.val (.long p0), .second, .val (.long p1), .second, .val (.long p2), .second, iv p3, iv p4, iv p5, .val (.double z10), .second, .val (.long z29), .second, .val (.long z36), .second, .val (.double z53), .second, iv z74, .val (.long z80), .second, .val (.long z90), .second, .val (.double z110), .second, .val (.long z136), .second, .val (.double z149), .second, .val (.double z173), .second] [(.int (own_cg (0 : UInt64) z149))]))) (fun t k => XS.dcmpS (x := (0 : UInt64)) (y := z149) (v := (own_cg (0 : UInt64) z149)) X36.here hx rfl (hb hby at_201) rfl rfl k) ?_
        have hc202 : (own_cg (0 : UInt64) z149) < (0 : Int32) := (own_t202 hz136 hc155 hz149 hc195)
        refine own_ifN X36 hx (hb hby at_202) (pn := 205) rfl hc202 ?_
        refine own_go (B := (T36.setTop (mkF m 207 #[.val (.long p0), .second, .val (.long p1), .second, .val (.long p2), .second, iv p3, iv p4, iv p5, .val (.double z10), .second, .val (.long z29), .second, .val (.long z36), .second, .val (.double z53), .second, iv z74, .val (.long z80), .second, .val (.long z90), .second, .val (.double z110), .second, .val (.long z136), .second, .val (.double z149), .second, .val (.double z173), .second] [(.double z149)]))) (fun t k => XS.dload X36.here hx rfl (hb hby at_205) rfl k) ?_
        refine own_go (B := (T36.setTop (mkF m 209 #[.val (.long p0), .second, .val (.long p1), .second, .val (.long p2), .second, iv p3, iv p4, iv p5, .val (.double z10), .second, .val (.long z29), .second, .val (.long z36), .second, .val (.double z53), .second, iv z74, .val (.long z80), .second, .val (.long z90), .second, .val (.double z110), .second, .val (.long z136), .second, .val (.double z149), .second, .val (.double z173), .second] [(.double z173), (.double z149)]))) (fun t k => XS.dload X36.here hx rfl (hb hby at_207) rfl k) ?_
        refine own_go (B := (T36.setTop (mkF m 210 #[.val (.long p0), .second, .val (.long p1), .second, .val (.long p2), .second, iv p3, iv p4, iv p5, .val (.double z10), .second, .val (.long z29), .second, .val (.long z36), .second, .val (.double z53), .second, iv z74, .val (.long z80), .second, .val (.long z90), .second, .val (.double z110), .second, .val (.long z136), .second, .val (.double z149), .second, .val (.double z173), .second] [(.int (own_cg z149 z173))]))) (fun t k => XS.dcmpS (x := z149) (y := z173) (v := (own_cg z149 z173)) X36.here hx rfl (hb hby at_209) rfl rfl k) ?_
        have hc210 : ¬ (0 : Int32) < (own_cg z149 z173) := (own_t210 hz136 hc155 hz149 hc195 hz173)
        refine own_ifN X36 hx (hb hby at_210) (pn := 213) rfl hc210 ?_
        refine own_go (B := (T36.setTop (mkF m 214 #[.val (.long p0), .second, .val (.long p1), .second, .val (.long p2), .second, iv p3, iv p4, iv p5, .val (.double z10), .second, .val (.long z29), .second, .val (.long z36), .second, .val (.double z53), .second, iv z74, .val (.long z80), .second, .val (.long z90), .second, .val (.double z110), .second, .val (.long z136), .second, .val (.double z149), .second, .val (.double z173), .second] [(.int (1 : Int32))]))) (fun t k => own_iconst (v := (1 : Int32)) X36.here hx rfl (hb hby at_213) (by decide) k) ?_
        refine own_go (B := (T36.setTop (mkF m 218 #[.val (.long p0), .second, .val (.long p1), .second, .val (.long p2), .second, iv p3, iv p4, iv p5, .val (.double z10), .second, .val (.long z29), .second, .val (.long z36), .second, .val (.double z53), .second, iv z74, .val (.long z80), .second, .val (.long z90), .second, .val (.double z110), .second, .val (.long z136), .second, .val (.double z149), .second, .val (.double z173), .second] [(.int (1 : Int32))]))) (fun t k => XS.goto X36.here hx rfl (pc0 := 214) (pc' := 218) rfl (hb hby at_214) (by decide) (by decide) k) ?_
        exact own_retZ X36 hx hlk Bd.returns (hb hby at_218) (by decide) (own_b rfl) (own_b rfl) (Q := (own_law_Q Z p0 p1 p2 p3 p4 p5 h0 n0)) ⟨rfl, N36⟩
  · refine own_go (B := (T36.setTop (mkF m 160 #[.val (.long p0), .second, .val (.long p1), .second, .val (.long p2), .second, iv p3, iv p4, iv p5, .val (.double z10), .second, .val (.long z29), .second, .val (.long z36), .second, .val (.double z53), .second, iv z74, .val (.long z80), .second, .val (.long z90), .second, .val (.double z110), .second, .val (.long z136), .second, .val (.double z149), .second, .unset, .unset] [(.double z149)]))) (fun t k => XS.dload X36.here hx rfl (hb hby at_158) rfl k) ?_
    refine own_go (B := (T36.setTop (mkF m 161 #[.val (.long p0), .second, .val (.long p1), .second, .val (.long p2), .second, iv p3, iv p4, iv p5, .val (.double z10), .second, .val (.long z29), .second, .val (.long z36), .second, .val (.double z53), .second, iv z74, .val (.long z80), .second, .val (.long z90), .second, .val (.double z110), .second, .val (.long z136), .second, .val (.double z149), .second, .unset, .unset] [(.double (0 : UInt64)), (.double z149)]))) (fun t k => XS.dconst0 (v := (0 : UInt64)) X36.here hx rfl (hb hby at_160) rfl k) ?_
    refine own_go (B := (T36.setTop (mkF m 162 #[.val (.long p0), .second, .val (.long p1), .second, .val (.long p2), .second, iv p3, iv p4, iv p5, .val (.double z10), .second, .val (.long z29), .second, .val (.long z36), .second, .val (.double z53), .second, iv z74, .val (.long z80), .second, .val (.long z90), .second, .val (.double z110), .second, .val (.long z136), .second, .val (.double z149), .second, .unset, .unset] [(.int (own_c z149 (0 : UInt64)))]))) (fun t k => XS.dcmpS (x := z149) (y := (0 : UInt64)) (v := (own_c z149 (0 : UInt64))) X36.here hx rfl (hb hby at_161) rfl rfl k) ?_
    have hc162 : (own_c z149 (0 : UInt64)) = (0 : Int32) := (own_t162 hc155 hz149)
    refine own_ifN X36 hx (hb hby at_162) (pn := 165) rfl hc162 ?_
    refine own_go (B := (T36.setTop (mkF m 166 #[.val (.long p0), .second, .val (.long p1), .second, .val (.long p2), .second, iv p3, iv p4, iv p5, .val (.double z10), .second, .val (.long z29), .second, .val (.long z36), .second, .val (.double z53), .second, iv z74, .val (.long z80), .second, .val (.long z90), .second, .val (.double z110), .second, .val (.long z136), .second, .val (.double z149), .second, .unset, .unset] [(.int (1 : Int32))]))) (fun t k => own_iconst (v := (1 : Int32)) X36.here hx rfl (hb hby at_165) (by decide) k) ?_
    refine own_go (B := (T36.setTop (mkF m 170 #[.val (.long p0), .second, .val (.long p1), .second, .val (.long p2), .second, iv p3, iv p4, iv p5, .val (.double z10), .second, .val (.long z29), .second, .val (.long z36), .second, .val (.double z53), .second, iv z74, .val (.long z80), .second, .val (.long z90), .second, .val (.double z110), .second, .val (.long z136), .second, .val (.double z149), .second, .unset, .unset] [(.int (1 : Int32))]))) (fun t k => XS.goto X36.here hx rfl (pc0 := 166) (pc' := 170) rfl (hb hby at_166) (by decide) (by decide) k) ?_
    exact own_retZ X36 hx hlk Bd.returns (hb hby at_170) (by decide) (own_b rfl) (own_b rfl) (Q := (own_law_Q Z p0 p1 p2 p3 p4 p5 h0 n0)) ⟨rfl, N36⟩

set_option maxRecDepth 65536 in
set_option maxHeartbeats 40000000 in
theorem own_comes {Post : Tables → Env → Array Value → State → Outcome → State → Prop} (hpost : ∀ tb e args s v u, (limb_1_1.after args s (.returned v) u = true ∧ limb_1_2.after args s (.returned v) u = true ∧ True) → FrameEnd s (.returned v) u (Jvm.fieldLocs frame_1_writes args s ++ Jvm.arrayLocs frame_1_arrays args s ++ Jvm.staticLocs frame_1_statics s) 16 128 → Post tb e args s (.returned v) u) :
    ArmFor flags0 classFile x code maxLocals ret World_1 tables_1 room_1 Calls_1 rest_1 Pre_1 Post := by
  intro l hfl _ _ p e ha hc hk s m args below hf hA hF happ hP
  obtain ⟨hcalls, hrest, hpre⟩ := hP
  obtain ⟨-, -, -, hnamed, -, -, -, hat⟩ := (Spec.applies_iff hf).mp happ
  obtain ⟨hg, hn⟩ := and_e (Cond.before_iff.mp (show (Jvm.Cond.and given_1 narrow_1).before args s = true from hpre))
  obtain ⟨g0, r0⟩ := and_e hg
  obtain ⟨g1, r1⟩ := and_e r0
  obtain ⟨g2, r2⟩ := and_e r1
  obtain ⟨g3, r3⟩ := and_e r2
  obtain ⟨g4, r4⟩ := and_e r3
  obtain ⟨g5, r5⟩ := and_e r4
  obtain ⟨w0, w1, w2, w3, w4, w5, rfl⟩ : ∃ w0 w1 w2 w3 w4 w5 : Value, args = #[w0, w1, w2, w3, w4, w5] := by
    have hs : args.size = 6 := by simpa [Cond.value, given_1] using g0
    obtain ⟨L⟩ := args
    match L, hs with
    | [w0, w1, w2, w3, w4, w5], _ => exact ⟨w0, w1, w2, w3, w4, w5, rfl⟩
  have hw := fun d (hd : d ∈ tables_1) => atoms_spec (ws := Jvm.Cond.code x code maxLocals ret :: tables_1) hat d (List.mem_cons_of_mem _ hd)
  have hfit : Fit s := fun {y c} hc i hi => by
    obtain ⟨ha, rfl⟩ := Array.getElem?_eq_some_iff.mp hc
    have q := List.all_eq_true.mp ((Array.all_eq_true_iff_forall_mem.mp hF) _ (Array.getElem_mem ha)) i (List.mem_range.mpr hi)
    simpa [Array.getElem?_eq_getElem hi] using q
  obtain ⟨i0, e0⟩ := isL_v g1
  obtain rfl : w0 = (.long i0) := Option.some.inj e0
  obtain ⟨i1, e1⟩ := isL_v g2
  obtain rfl : w1 = (.long i1) := Option.some.inj e1
  obtain ⟨i2, e2⟩ := isL_v g3
  obtain rfl : w2 = (.long i2) := Option.some.inj e2
  obtain ⟨i3, e3⟩ := is_v g4
  obtain rfl : w3 = (.int i3) := Option.some.inj e3
  obtain ⟨i4, e4⟩ := is_v g5
  obtain rfl : w4 = (.int i4) := Option.some.inj e4
  obtain ⟨i5, e5⟩ := is_v r5
  obtain rfl : w5 = (.int i5) := Option.some.inj e5
  obtain ⟨n, o, h1, h2, h3, _, L, rfl, ⟨rfl, N⟩, hq⟩ := own_law l s _ hw tables_1 i0 i1 i2 i3 i4 i5 s.heap s.heap.size (Nat.le_refl _) p e ha hc hk s m _ below hf ((Spec.applies_iff_loose hf).mp happ).1 ⟨rfl, State.Warmed39.refl s, rfl⟩ trivial
  refine ⟨n, _, h1, h2, h3, hpost _ _ _ _ _ _ ⟨Cond.after_iff.mpr rfl, Cond.after_iff.mpr (eq_i res_at (Term.int_eval (1)) rfl), trivial⟩ ⟨hq.1, hq.2.1, (hq.2.2.sift fun y hy => Or.inr (N y hy)).mono (by decide) (by decide)⟩⟩
theorem main_1_1 : Claimed_1_1 := own_comes fun _ _ _ _ _ _ h hF => ⟨h.1, hF⟩
theorem main_1_2 : Claimed_1_2 := own_comes fun _ _ _ _ _ _ h hF => ⟨h.2.1, hF⟩
end Jvm.Pilot.@@N@@
namespace Jvm.Pilot.@@N@@
open Jvm Jvm.ClassFile Sem Op Lib Jvm.Free Jvm.Stand Jvm.Pilot.@@N@@.Jvm.D
/-! MADE BY PROGRAM (witnessworld.py) out of the Statement's table words and the real class files: 10 classes; the members and pool entries that the words name. The judged class is class 1, her method 2. -/
namespace start1
open Jvm.ClassFile
def u (s : String) : CpInfo := .utf8 (stringToUtf16 s)
/-- a pool by its gaps: so many unusable entries, then the entry; so many at the end -/
def gap : Nat → List CpInfo → List CpInfo
  | 0, r => r
  | n + 1, r => .unusable :: gap n r
def poolList (es : List (Nat × CpInfo)) (last : Nat) : List CpInfo := es.foldr (fun e r => gap e.1 (e.2 :: r)) (gap last [])
def pool (es : List (Nat × CpInfo)) (last : Nat) : Array CpInfo := ⟨poolList es last⟩
def fileOf (pool : Array CpInfo) (this : Nat) (attrs : Array Attribute := #[]) (ms : Array MethodInfo := #[]) (fl : Nat := 33) (sup : Nat := 0) (ifs : Array Nat := #[]) (fds : Array FieldInfo := #[]) : ClassFile where
  minorVersion := 0
  majorVersion := 65
  constantPool := pool
  accessFlags := fl
  thisClass := this
  superClass := sup
  interfaces := ifs
  fields := fds
  methods := ms
  attributes := attrs
def plain (name : String) (sup : Option ClassId) : Class where
  name := name
  kind := .ordinary
  loader := none
  accessFlags := 33
  super := sup
  interfaces := #[]
  cf := none
  fields := #[]
  methods := #[]
  instanceTypes := #[]
  staticTypes := #[]
  resolved := #[]
  callSites := []
  init := .initialized
  statics := none
  mirror := none

def pool0 : Array CpInfo := pool [(5, u "<init>"), (0, u "()V"), (1, .class_ 10), (1, u "java/lang/Object")] 113

def k0c0 : Code := { maxStack := 0, maxLocals := 1, code := object_method_1_code, exceptionTable := #[], attributes := #[] }
def k0m0 : Method := { name := "<init>", desc := "()V", sig := { parameters := [], returnType := none }, accessFlags := 1, code := some k0c0 }
/-- java/lang/Object -/
def k0 : Class := { plain "java/lang/Object" none with
  accessFlags := 33
  interfaces := #[]
  cf := some (fileOf pool0 8 #[] #[{ accessFlags := 1, nameIndex := 5, descriptorIndex := 6, attributes := #[] }] 33 0 #[] #[])
  fields := #[]
  methods := #[k0m0]
  instanceTypes := #[]
  staticTypes := #[]
  resolved := Array.replicate 124 none
  statics := none }

def pool1 : Array CpInfo := pool [(2, .class_ 4), (1, u "java/lang/Object"), (0, u "<init>"), (0, u "()V"), (0, .class_ 8), (0, u "com/example/sluicegate/sluicegate/stat/WindowStatistics"), (0, .long 18446744073709551615), (1, .methodref 7 12), (0, .nameAndType 5 13), (0, u "(JJJJJJJJ)V"), (0, .methodref 15 16), (0, .class_ 17), (0, .nameAndType 18 19), (0, u "com/example/sluicegate/sluicegate/stat/WindowStatisticsAverageResponseMillisPinLaw"), (0, u "make"), (0, u "(JJJ)Lcom/example/sluicegate/sluicegate/stat/WindowStatistics;"), (0, .methodref 7 21), (0, .nameAndType 22 23), (0, u "averageResponseMillis"), (0, u "()D"), (0, .integer 67108863), (2, .long 9223372036854775807), (3, u "law"), (0, u "(JJJIII)Z")] 3

def k1m0 : Method := { name := "<init>", desc := "()V", sig := { parameters := [], returnType := none }, accessFlags := 1, code := none }
def k1c1 : Code := { maxStack := 20, maxLocals := 6, code := method_2_code, exceptionTable := #[], attributes := #[] }
def k1m1 : Method := { name := "make", desc := "(JJJ)Lcom/example/sluicegate/sluicegate/stat/WindowStatistics;", sig := { parameters := [.long, .long, .long], returnType := some (.object "com/example/sluicegate/sluicegate/stat/WindowStatistics") }, accessFlags := 10, code := some k1c1 }
def k1c2 : Code := { maxStack := 8, maxLocals := 30, code := code, exceptionTable := #[], attributes := #[] }
def k1m2 : Method := { name := "law", desc := "(JJJIII)Z", sig := { parameters := [.long, .long, .long, .int, .int, .int], returnType := some .boolean }, accessFlags := 9, code := some k1c2 }
/-- com/example/sluicegate/sluicegate/stat/WindowStatisticsAverageResponseMillisPinLaw -/
def k1 : Class := { plain "com/example/sluicegate/sluicegate/stat/WindowStatisticsAverageResponseMillisPinLaw" (some 0) with
  accessFlags := 49
  interfaces := #[]
  cf := some (fileOf pool1 15 #[] #[{ accessFlags := 1, nameIndex := 5, descriptorIndex := 6, attributes := #[] }, { accessFlags := 10, nameIndex := 18, descriptorIndex := 19, attributes := #[] }, { accessFlags := 9, nameIndex := 31, descriptorIndex := 32, attributes := #[] }] 49 2 #[] #[])
  fields := #[]
  methods := #[k1m0, k1m1, k1m2]
  instanceTypes := #[]
  staticTypes := #[]
  resolved := Array.replicate 36 none
  statics := none }

def pool2 : Array CpInfo := pool [(1, .methodref 2 3), (0, .class_ 4), (0, .nameAndType 5 6), (0, u "java/lang/Object"), (0, u "<init>"), (0, u "()V"), (0, .class_ 8), (0, u "java/lang/Record")] 13

def k2c0 : Code := { maxStack := 1, maxLocals := 1, code := jdk_30_method_1_code, exceptionTable := #[], attributes := #[] }
def k2m0 : Method := { name := "<init>", desc := "()V", sig := { parameters := [], returnType := none }, accessFlags := 4, code := some k2c0 }
/-- java/lang/Record -/
def k2 : Class := { plain "java/lang/Record" (some 0) with
  accessFlags := 1057
  interfaces := #[]
  cf := some (fileOf pool2 7 #[] #[{ accessFlags := 4, nameIndex := 5, descriptorIndex := 6, attributes := #[] }] 1057 2 #[] #[])
  fields := #[]
  methods := #[k2m0]
  instanceTypes := #[]
  staticTypes := #[]
  resolved := Array.replicate 22 none
  statics := none }

def pool3 : Array CpInfo := pool [(1, .methodref 2 3), (0, .class_ 4), (0, .nameAndType 5 6), (0, u "java/lang/Record"), (0, u "<init>"), (0, u "()V"), (0, .fieldref 8 9), (0, .class_ 10), (0, .nameAndType 11 12), (0, u "com/example/sluicegate/sluicegate/stat/WindowStatistics"), (0, u "startMillis"), (0, u "J"), (0, .fieldref 8 14), (0, .nameAndType 15 12), (0, u "lengthMillis"), (0, .fieldref 8 17), (0, .nameAndType 18 12), (0, u "passed"), (0, .fieldref 8 20), (0, .nameAndType 21 12), (0, u "refused"), (0, .fieldref 8 23), (0, .nameAndType 24 12), (0, u "completed"), (0, .fieldref 8 26), (0, .nameAndType 27 12), (0, u "errors"), (0, .fieldref 8 29), (0, .nameAndType 30 12), (0, u "totalResponseMillis"), (0, .fieldref 8 32), (0, .nameAndType 33 12), (0, u "minResponseMillis"), (44, u "(JJJJJJJJ)V"), (17, u "averageResponseMillis"), (0, u "()D")] 39

def k3c0 : Code := { maxStack := 3, maxLocals := 17, code := prog_100_method_1_code, exceptionTable := #[], attributes := #[] }
def k3m0 : Method := { name := "<init>", desc := "(JJJJJJJJ)V", sig := { parameters := [.long, .long, .long, .long, .long, .long, .long, .long], returnType := none }, accessFlags := 1, code := some k3c0 }
def k3c1 : Code := { maxStack := 4, maxLocals := 1, code := prog_100_method_2_code, exceptionTable := #[], attributes := #[] }
def k3m1 : Method := { name := "averageResponseMillis", desc := "()D", sig := { parameters := [], returnType := some .double }, accessFlags := 1, code := some k3c1 }
/-- com/example/sluicegate/sluicegate/stat/WindowStatistics -/
def k3 : Class := { plain "com/example/sluicegate/sluicegate/stat/WindowStatistics" (some 2) with
  accessFlags := 49
  interfaces := #[]
  cf := some (fileOf pool3 8 #[] #[{ accessFlags := 1, nameIndex := 5, descriptorIndex := 78, attributes := #[] }, { accessFlags := 1, nameIndex := 96, descriptorIndex := 97, attributes := #[] }] 49 2 #[] #[{ accessFlags := 18, nameIndex := 11, descriptorIndex := 12, attributes := #[] }, { accessFlags := 18, nameIndex := 15, descriptorIndex := 12, attributes := #[] }, { accessFlags := 18, nameIndex := 18, descriptorIndex := 12, attributes := #[] }, { accessFlags := 18, nameIndex := 21, descriptorIndex := 12, attributes := #[] }, { accessFlags := 18, nameIndex := 24, descriptorIndex := 12, attributes := #[] }, { accessFlags := 18, nameIndex := 27, descriptorIndex := 12, attributes := #[] }, { accessFlags := 18, nameIndex := 30, descriptorIndex := 12, attributes := #[] }, { accessFlags := 18, nameIndex := 33, descriptorIndex := 12, attributes := #[] }])
  fields := #[{ name := "startMillis", type := .long, accessFlags := 18, slot := 0, constantValue := 0 }, { name := "lengthMillis", type := .long, accessFlags := 18, slot := 1, constantValue := 0 }, { name := "passed", type := .long, accessFlags := 18, slot := 2, constantValue := 0 }, { name := "refused", type := .long, accessFlags := 18, slot := 3, constantValue := 0 }, { name := "completed", type := .long, accessFlags := 18, slot := 4, constantValue := 0 }, { name := "errors", type := .long, accessFlags := 18, slot := 5, constantValue := 0 }, { name := "totalResponseMillis", type := .long, accessFlags := 18, slot := 6, constantValue := 0 }, { name := "minResponseMillis", type := .long, accessFlags := 18, slot := 7, constantValue := 0 }]
  methods := #[k3m0, k3m1]
  instanceTypes := #[.long, .long, .long, .long, .long, .long, .long, .long]
  staticTypes := #[]
  resolved := Array.replicate 137 none
  statics := none }

def pool4 : Array CpInfo := pool [(1, u "java/lang/Cloneable"), (0, .class_ 1), (0, u "java/lang/Object"), (0, .class_ 3)] 3

/-- java/lang/Cloneable -/
def k4 : Class := { plain "java/lang/Cloneable" (some 0) with
  accessFlags := 1537
  interfaces := #[]
  cf := some (fileOf pool4 2 #[] #[] 1537 4 #[] #[])
  fields := #[]
  methods := #[]
  instanceTypes := #[]
  staticTypes := #[]
  resolved := Array.replicate 8 none
  statics := none }

def pool5 : Array CpInfo := pool [(1, u "java/io/Serializable"), (0, .class_ 1), (0, u "java/lang/Object"), (0, .class_ 3)] 3

/-- java/io/Serializable -/
def k5 : Class := { plain "java/io/Serializable" (some 0) with
  accessFlags := 1537
  interfaces := #[]
  cf := some (fileOf pool5 2 #[] #[] 1537 4 #[] #[])
  fields := #[]
  methods := #[]
  instanceTypes := #[]
  staticTypes := #[]
  resolved := Array.replicate 8 none
  statics := none }

/-- the primitive byte -/
def k6 : Class := { plain "byte" none with kind := .primitive 'B', accessFlags := 0x411 }
/-- [B -/
def k7 : Class := { plain "[B" (some 0) with kind := .array 6 .byte, interfaces := #[4, 5], accessFlags := 1041 }

/-- the primitive int -/
def k8 : Class := { plain "int" none with kind := .primitive 'I', accessFlags := 0x411 }
/-- [I -/
def k9 : Class := { plain "[I" (some 0) with kind := .array 8 .int, interfaces := #[4, 5], accessFlags := 1041 }

def heap : Heap := #[]
def classes : Array Class := #[k0, k1, k2, k3, k4, k5, k6, k7, k8, k9]
def interned : List (Array UInt16 × Addr) := []
def slotsUsed : Nat := 0
def theMethod : MethodId := ⟨1, 2⟩
def args0 : Array Value := #[.long 5, .long 300, .long 7, .int 9, .int 11, .int 13]
def aboutOver (below : List Frame) : State where
  vm := { classes := classes, interned := interned.toArray }
  heap := heap
  slotsUsed := slotsUsed
  threads := #[{ frames := .invoking theMethod args0 :: below }]
def below0 : List Frame := [.native { method := ⟨0, 0⟩, args := #[] }]
def about1 : State := aboutOver below0
def p0 : Program := .bare "" "" ""
def e0 : Env := launch0.env 0 0 0
theorem w_frames : about1.frames = Frame.invoking theMethod args0 :: below0 := rfl
set_option maxRecDepth 65536 in
theorem w_args : argsFit about1.vm theMethod args0 = true := by decide +kernel
set_option maxRecDepth 65536 in
theorem w_heap : heapFits about1 = true := by decide +kernel
set_option maxRecDepth 65536 in
theorem w_runnable : about1.curStatus? = some .runnable := by decide +kernel
set_option maxRecDepth 65536 in
theorem w_alone : about1.alone = true := by decide +kernel
set_option maxRecDepth 65536 in
theorem w_named : about1.methodNamed? x = some theMethod := by decide +kernel
set_option maxRecDepth 65536 in
theorem w_hears : about1.hears theMethod below0 = true := by decide +kernel
set_option maxRecDepth 65536 in
theorem w_ripe : about1.ripe theMethod args0 below0 = true := by decide +kernel
theorem w_running : about1.status = .running := rfl
set_option maxRecDepth 65536 in
theorem w_room : about1.hasRoom e0.platform room_1 = true :=
  launch0.hasRoom_least _ room_1 (by decide +kernel) (by decide +kernel) (by decide +kernel) (by decide +kernel) (by decide +kernel) (by decide +kernel)
theorem allAtoms_all (ts : List Jvm.Cond) (a : Array Jvm.Value) (st : Jvm.State) : (allAtoms ts).before a st = ts.all (fun c => c.before a st) := by
  induction ts with
  | nil => rfl
  | cons c t ih =>
    show (Jvm.Cond.and c (allAtoms t)).before a st = _
    rw [Jvm.Cond.before_and, ih, List.all_cons]
def words1 : List Jvm.Cond := Jvm.Cond.code x code maxLocals ret :: tables_1
/-- a 'code' word, met by the world's own term for the bytes: nothing is compared byte by byte -/
theorem code_word {y : MethodName} {bytes : ByteArray} {mx : Nat} {rt : Option FieldType} {a : Array Value} {s : State} {m : MethodId} {meth : Method} {c : Code} (h1 : s.methodNamed? y = some m) (h2 : s.vm.method? m = some meth) (h3 : meth.code = some c) (h4 : c.code = bytes)
    (h5 : (c.maxLocals == mx && c.exceptionTable.isEmpty && decide (c.maxStack ≤ mostOperands) && decide (meth.sig.returnType = rt) && !meth.locks && decide (parseMethodDescriptor y.desc = some meth.sig)) = true) : (Jvm.Cond.code y bytes mx rt).before a s = true := by
  simp only [Bool.and_eq_true, beq_iff_eq, Bool.not_eq_true', decide_eq_true_eq] at h5
  obtain ⟨⟨⟨⟨⟨g1, g2⟩, g3⟩, g4⟩, g5⟩, g6⟩ := h5
  simp [Cond.before, Cond.holds, Cond.value, h1, h2, h3, h4, g1, g2, g3, g4, g5, g6]
def isCode : Jvm.Cond → Bool
  | .code _ _ _ _ => true
  | _ => false
theorem all_split {L : List Jvm.Cond} {P : Jvm.Cond → Bool} (h1 : L.all (fun c => isCode c || P c) = true) (h2 : ∀ c ∈ L.filter isCode, P c = true) : L.all P = true := by
  refine List.all_eq_true.mpr fun c hc => ?_
  have h := List.all_eq_true.mp h1 c hc
  rcases Bool.eq_false_or_eq_true (isCode c) with hi | hi
  · exact h2 c (List.mem_filter.mpr ⟨hc, hi⟩)
  · simpa [hi] using h
set_option maxRecDepth 65536 in
theorem w_c0 : (Jvm.Cond.code x code maxLocals ret).before args0 about1 = true := code_word (m := ⟨1, 2⟩) (meth := k1m2) (c := k1c2) (by decide +kernel) rfl rfl rfl (by decide +kernel)
set_option maxRecDepth 65536 in
theorem w_c1 : (Jvm.Cond.code ({ cls := "com/example/sluicegate/sluicegate/stat/WindowStatisticsAverageResponseMillisPinLaw", name := "make", desc := "(JJJ)Lcom/example/sluicegate/sluicegate/stat/WindowStatistics;" } : Jvm.MethodName) method_2_code (6 : Nat) (Option.some (Jvm.ClassFile.FieldType.object "com/example/sluicegate/sluicegate/stat/WindowStatistics"))).before args0 about1 = true := code_word (m := ⟨1, 1⟩) (meth := k1m1) (c := k1c1) (by decide +kernel) rfl rfl rfl (by decide +kernel)
set_option maxRecDepth 65536 in
theorem w_c2 : (Jvm.Cond.code ({ cls := "com/example/sluicegate/sluicegate/stat/WindowStatistics", name := "<init>", desc := "(JJJJJJJJ)V" } : Jvm.MethodName) prog_100_method_1_code (17 : Nat) (Option.none : Option Jvm.ClassFile.FieldType)).before args0 about1 = true := code_word (m := ⟨3, 0⟩) (meth := k3m0) (c := k3c0) (by decide +kernel) rfl rfl rfl (by decide +kernel)
set_option maxRecDepth 65536 in
theorem w_c3 : (Jvm.Cond.code ({ cls := "java/lang/Record", name := "<init>", desc := "()V" } : Jvm.MethodName) jdk_30_method_1_code (1 : Nat) (Option.none : Option Jvm.ClassFile.FieldType)).before args0 about1 = true := code_word (m := ⟨2, 0⟩) (meth := k2m0) (c := k2c0) (by decide +kernel) rfl rfl rfl (by decide +kernel)
set_option maxRecDepth 65536 in
theorem w_c4 : (Jvm.Cond.code ({ cls := "java/lang/Object", name := "<init>", desc := "()V" } : Jvm.MethodName) object_method_1_code (1 : Nat) (Option.none : Option Jvm.ClassFile.FieldType)).before args0 about1 = true := code_word (m := ⟨0, 0⟩) (meth := k0m0) (c := k0c0) (by decide +kernel) rfl rfl rfl (by decide +kernel)
set_option maxRecDepth 65536 in
theorem w_c5 : (Jvm.Cond.code ({ cls := "com/example/sluicegate/sluicegate/stat/WindowStatistics", name := "averageResponseMillis", desc := "()D" } : Jvm.MethodName) prog_100_method_2_code (1 : Nat) (Option.some Jvm.ClassFile.FieldType.double)).before args0 about1 = true := code_word (m := ⟨3, 1⟩) (meth := k3m1) (c := k3c1) (by decide +kernel) rfl rfl rfl (by decide +kernel)
def codes1 : List Jvm.Cond := [Jvm.Cond.code x code maxLocals ret, Jvm.Cond.code ({ cls := "com/example/sluicegate/sluicegate/stat/WindowStatisticsAverageResponseMillisPinLaw", name := "make", desc := "(JJJ)Lcom/example/sluicegate/sluicegate/stat/WindowStatistics;" } : Jvm.MethodName) method_2_code (6 : Nat) (Option.some (Jvm.ClassFile.FieldType.object "com/example/sluicegate/sluicegate/stat/WindowStatistics")), Jvm.Cond.code ({ cls := "com/example/sluicegate/sluicegate/stat/WindowStatistics", name := "<init>", desc := "(JJJJJJJJ)V" } : Jvm.MethodName) prog_100_method_1_code (17 : Nat) (Option.none : Option Jvm.ClassFile.FieldType), Jvm.Cond.code ({ cls := "java/lang/Record", name := "<init>", desc := "()V" } : Jvm.MethodName) jdk_30_method_1_code (1 : Nat) (Option.none : Option Jvm.ClassFile.FieldType), Jvm.Cond.code ({ cls := "java/lang/Object", name := "<init>", desc := "()V" } : Jvm.MethodName) object_method_1_code (1 : Nat) (Option.none : Option Jvm.ClassFile.FieldType), Jvm.Cond.code ({ cls := "com/example/sluicegate/sluicegate/stat/WindowStatistics", name := "averageResponseMillis", desc := "()D" } : Jvm.MethodName) prog_100_method_2_code (1 : Nat) (Option.some Jvm.ClassFile.FieldType.double)]
set_option maxRecDepth 65536 in
theorem codes_eq : words1.filter isCode = codes1 := rfl
theorem w_codes : ∀ c ∈ words1.filter isCode, c.before args0 about1 = true := by
  rw [codes_eq]
  intro c hc
  simp only [codes1, List.mem_cons, List.not_mem_nil, or_false] at hc
  rcases hc with rfl | rfl | rfl | rfl | rfl | rfl
  · exact w_c0
  · exact w_c1
  · exact w_c2
  · exact w_c3
  · exact w_c4
  · exact w_c5
set_option maxRecDepth 65536 in
theorem w_t1 : (words1.take 24).all (fun c => isCode c || c.before args0 about1) = true := by decide +kernel
set_option maxRecDepth 65536 in
theorem w_t2 : (words1.drop 24).all (fun c => isCode c || c.before args0 about1) = true := by decide +kernel
theorem w_tables : (allAtoms (Jvm.Cond.code x code maxLocals ret :: tables_1)).before args0 about1 = true := by
  rw [allAtoms_all]
  show words1.all (fun c => c.before args0 about1) = true
  refine all_split ?_ w_codes
  rw [← List.take_append_drop 24 words1, List.all_append, w_t1, w_t2]
  rfl
set_option maxRecDepth 65536 in
theorem w_case : (Jvm.Cond.and given_1 narrow_1).before args0 about1 = true := by decide +kernel
theorem w_applies : (headSpec (Jvm.Cond.code x code maxLocals ret :: tables_1) room_1).applies x e0.platform about1 = true :=
  (Spec.applies_iff w_frames).mpr ⟨w_running, w_runnable, w_alone, w_named, w_hears, w_ripe, w_room, w_tables⟩
theorem atStart : AtStart classFile x code maxLocals ret World_1 tables_1 room_1 Calls_1 rest_1 Pre_1 launch0 p0 e0 about1 theMethod args0 below0 :=
  ⟨lists_1, trivial, launch0.admits_env _ _ _, launch0.least_env, fairChoices_fair.cas, fairChoices_fair.clock, w_frames, w_args, w_heap, w_applies, trivial, trivial, w_case⟩
end start1
theorem witness_1 : WitnessClaimed_1 := ⟨start1.p0, start1.e0, start1.about1, start1.theMethod, start1.args0, start1.below0, start1.atStart⟩
end Jvm.Pilot.@@N@@
