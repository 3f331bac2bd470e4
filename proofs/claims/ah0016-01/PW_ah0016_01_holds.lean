import PyProof.Rows.All
import Wide.All
import OpenK.AllK
import Wide.FinOn
import Lean
import PySem.Challenge.RW_ah0016_01
set_option Elab.async false

section
namespace Mine
def isLeap (y : Int) : Bool := y.fmod 4 == 0 && (y.fmod 100 != 0 || y.fmod 400 == 0)
/-- a month's length, the days before it, a year's first day -/
def mlen (lp : Bool) (m : Int) : Int := if m = 2 then (if lp = true then 29 else 28) else if m = 4 ∨ m = 6 ∨ m = 9 ∨ m = 11 then 30 else 31
def cum (lp : Bool) (m : Int) : Int := (367 * m - 362) / 12 + (if m ≤ 2 then 0 else if lp = true then -1 else -2)
def jan1 (y : Int) : Int := 1721426 + 365 * (y - 1) + (y - 1) / 4 - (y - 1) / 100 + (y - 1) / 400
theorem isLeap_iff (y : Int) : isLeap y = true ↔ y % 4 = 0 ∧ (y % 100 ≠ 0 ∨ y % 400 = 0) := by
  unfold isLeap
  rw [Int.fmod_eq_emod_of_nonneg y (by decide), Int.fmod_eq_emod_of_nonneg y (by decide), Int.fmod_eq_emod_of_nonneg y (by decide)]
  simp
/-- a table over the months -/
theorem byMonth {P : Int → Prop} (n : Nat) (h : ∀ k : Fin n, 1 ≤ k.val → P (k.val : Int)) {m : Int} (hm : 1 ≤ m) (hm' : m < n) : P m := by
  have e : ((m.toNat : Nat) : Int) = m := Int.toNat_of_nonneg (Int.le_trans (by decide) hm)
  have h' := h ⟨m.toNat, by (first | lia | omega)⟩ (by show 1 ≤ m.toNat; (first | lia | omega))
  rw [show (((⟨m.toNat, by (first | lia | omega)⟩ : Fin n).val : Nat) : Int) = m from e] at h'
  exact h'

/-- a year by rows of 400, 100, 4 and single years -/
structure Rows (y a b c d : Int) : Prop where
  eq : y = 400 * a + 100 * b + 4 * c + d + 1
  b0 : 0 ≤ b
  b1 : b ≤ 3
  c0 : 0 ≤ c
  c1 : c ≤ 24
  d0 : 0 ≤ d
  d1 : d ≤ 3
theorem rows (y : Int) : ∃ a b c d, Rows y a b c d := by
  refine ⟨(y - 1) / 400, (y - 1) % 400 / 100, (y - 1) % 100 / 4, (y - 1) % 4, ?_, ?_, ?_, ?_, ?_, ?_, ?_⟩
  all_goals omega
theorem quot {x k q r : Int} (h : x = k * q + r) (h0 : 0 ≤ r) (h1 : r < k) : x / k = q := by
  subst h
  rw [Int.add_comm, Int.add_mul_ediv_left _ _ (by (first | lia | omega)), Int.ediv_eq_zero_of_lt h0 h1, Int.zero_add]
theorem rem {x k q r : Int} (h : x = k * q + r) (h0 : 0 ≤ r) (h1 : r < k) : x % k = r := by
  subst h
  rw [Int.add_comm, Int.add_mul_emod_self_left, Int.emod_eq_of_lt h0 h1]
section
variable {y a b c d : Int}
theorem Rows.leap (R : Rows y a b c d) : isLeap y = true ↔ d = 3 ∧ (c ≠ 24 ∨ b = 3) := by
  rw [isLeap_iff]
  obtain ⟨e, b0, b1, c0, c1, d0, d1⟩ := R
  subst e
  have h4 : (400 * a + 100 * b + 4 * c + d + 1) % 4 = 0 ↔ d = 3 := by clear b0 b1 c0 c1; (first | lia | omega)
  rw [h4]
  have h5 : d = 3 → (((400 * a + 100 * b + 4 * c + d + 1) % 100 ≠ 0 ∨ (400 * a + 100 * b + 4 * c + d + 1) % 400 = 0) ↔ (c ≠ 24 ∨ b = 3)) := by
    intro h
    subst h
    clear h4 d0 d1
    by_cases hc : c = 24
    · subst hc
      clear c0 c1
      by_cases hb : b = 3
      · subst hb
        clear b0 b1
        (first | lia | omega)
      · (first | lia | omega)
    · have : (400 * a + 100 * b + 4 * c + 3 + 1) % 100 = 4 * c + 4 := rem (q := 4 * a + b) (by (first | lia | omega)) (by (first | lia | omega)) (by (first | lia | omega))
      rw [this]
      (first | lia | omega)
  constructor
  · rintro ⟨h, h'⟩
    exact ⟨h, (h5 h).mp h'⟩
  · rintro ⟨h, h'⟩
    exact ⟨h, (h5 h).mpr h'⟩
theorem Rows.jan1 (R : Rows y a b c d) : Mine.jan1 y = 1721426 + 146097 * a + 36524 * b + 1461 * c + 365 * d := by
  obtain ⟨e, b0, b1, c0, c1, d0, d1⟩ := R
  have e1 : (y - 1) / 400 = a := quot (r := 100 * b + 4 * c + d) (by (first | lia | omega)) (by (first | lia | omega)) (by (first | lia | omega))
  have e2 : (y - 1) / 100 = 4 * a + b := quot (r := 4 * c + d) (by (first | lia | omega)) (by (first | lia | omega)) (by (first | lia | omega))
  have e3 : (y - 1) / 4 = 100 * a + 25 * b + c := quot (r := d) (by (first | lia | omega)) (by (first | lia | omega)) (by (first | lia | omega))
  unfold Mine.jan1
  rw [e1, e2, e3, e]
  clear e e1 e2 e3 b0 b1 c0 c1 d0 d1
  (first | lia | omega)
end
theorem months {m : Int} (hm : 1 ≤ m) (hm' : m ≤ 12) : m = 1 ∨ m = 2 ∨ m = 3 ∨ m = 4 ∨ m = 5 ∨ m = 6 ∨ m = 7 ∨ m = 8 ∨ m = 9 ∨ m = 10 ∨ m = 11 ∨ m = 12 :=
  byMonth (P := fun m => m = 1 ∨ m = 2 ∨ m = 3 ∨ m = 4 ∨ m = 5 ∨ m = 6 ∨ m = 7 ∨ m = 8 ∨ m = 9 ∨ m = 10 ∨ m = 11 ∨ m = 12) 13 (by decide) hm (Int.lt_of_le_of_lt hm' (by decide))
/-- the months' other formulas -/
theorem tab_long {m : Int} (h2 : ¬ m ≤ 2) (hm' : m ≤ 12) : 306001 * (m + 1) / 10000 = (367 * m - 362) / 12 + 61 ∧ 306 * (m + 1) / 10 = (367 * m - 362) / 12 + 61 :=
  byMonth (P := fun m => ¬ m ≤ 2 → 306001 * (m + 1) / 10000 = (367 * m - 362) / 12 + 61 ∧ 306 * (m + 1) / 10 = (367 * m - 362) / 12 + 61) 13 (by decide +kernel) (by (first | lia | omega)) (Int.lt_of_le_of_lt hm' (by decide)) h2
theorem tab_short {m : Int} (hm : 1 ≤ m) (h2 : m ≤ 2) : 306001 * (m + 12 + 1) / 10000 = (367 * m - 362) / 12 + 428 ∧ 306 * (m + 1 + 12) / 10 = (367 * m - 362) / 12 + 428 :=
  byMonth (P := fun m => 306001 * (m + 12 + 1) / 10000 = (367 * m - 362) / 12 + 428 ∧ 306 * (m + 1 + 12) / 10 = (367 * m - 362) / 12 + 428) 3 (by decide +kernel) hm (Int.lt_of_le_of_lt h2 (by decide))
theorem cum_lo {lp : Bool} {m : Int} (h : m ≤ 2) : cum lp m = (367 * m - 362) / 12 := by
  unfold cum
  rw [if_pos h, Int.add_zero]
theorem cum_hi {lp : Bool} {m : Int} (h : ¬ m ≤ 2) : cum lp m = (367 * m - 362) / 12 + (if lp = true then 1 else 0) - 2 := by
  unfold cum
  rw [if_neg h]
  cases lp
  · show _ + -2 = _ + 0 - 2
    (first | lia | omega)
  · show _ + -1 = _ + 1 - 2
    (first | lia | omega)
theorem ifle (lp : Bool) : 0 ≤ (if lp = true then (1 : Int) else 0) ∧ (if lp = true then (1 : Int) else 0) ≤ 1 := by cases lp <;> decide
/-- what a leap year's day does to the century formula -/
theorem Rows.key {y a b c d : Int} (R : Rows y a b c d) : 2 - y / 100 + y / 100 / 4 + 1461 * (y + 4716) / 4 = 1722886 + 146097 * a + 36524 * b + 1461 * c + 365 * d + (if isLeap y = true then 1 else 0) := by
  have hl := R.leap
  obtain ⟨e, b0, b1, c0, c1, d0, d1⟩ := R
  by_cases h : d = 3
  · have e4 : 1461 * (y + 4716) / 4 = 146100 * a + 36525 * b + 1461 * c + 1461 + 1722519 + 0 := quot (r := 0) (by (first | lia | omega)) (by decide) (by decide)
    by_cases hc : c = 24
    · have e2 : y / 100 = 4 * a + b + 1 := quot (r := 0) (by (first | lia | omega)) (by decide) (by decide)
      rw [e2, e4]
      by_cases hb : b = 3
      · rw [if_pos (hl.mpr ⟨h, .inr hb⟩)]
        have e3 : (4 * a + b + 1) / 4 = a + 1 := quot (r := 0) (by (first | lia | omega)) (by decide) (by decide)
        rw [e3]
        clear hl e e2 e3 e4 b0 b1 c0 c1 d0 d1
        (first | lia | omega)
      · rw [if_neg (fun q => (hl.mp q).2.elim (fun x => x hc) hb)]
        have e3 : (4 * a + b + 1) / 4 = a := quot (r := b + 1) (by (first | lia | omega)) (by (first | lia | omega)) (by (first | lia | omega))
        rw [e3]
        clear hl e e2 e3 e4 b0 b1 c0 c1 d0 d1
        (first | lia | omega)
    · rw [if_pos (hl.mpr ⟨h, .inl hc⟩)]
      have e2 : y / 100 = 4 * a + b := quot (r := 4 * c + 4) (by (first | lia | omega)) (by (first | lia | omega)) (by (first | lia | omega))
      have e3 : (4 * a + b) / 4 = a := quot (r := b) (by (first | lia | omega)) b0 (by (first | lia | omega))
      rw [e2, e3, e4]
      clear hl e e2 e3 e4 b0 b1 c0 c1 d0 d1
      (first | lia | omega)
  · rw [if_neg (fun q => h (hl.mp q).1)]
    have e4 : 1461 * (y + 4716) / 4 = 146100 * a + 36525 * b + 1461 * c + 365 * d + 365 + 1722519 := quot (r := d + 1) (by (first | lia | omega)) (by (first | lia | omega)) (by (first | lia | omega))
    have e2 : y / 100 = 4 * a + b := quot (r := 4 * c + d + 1) (by (first | lia | omega)) (by (first | lia | omega)) (by (first | lia | omega))
    have e3 : (4 * a + b) / 4 = a := quot (r := b) (by (first | lia | omega)) b0 (by (first | lia | omega))
    rw [e2, e3, e4]
    clear hl e e2 e3 e4 b0 b1 c0 c1 d0 d1
    (first | lia | omega)
theorem jd2_math {y m : Int} (hm : 1 ≤ m) (hm' : m ≤ 12) :
    (if m ≤ 2 then 2 - (y - 1) / 100 + (y - 1) / 100 / 4 + 1461 * (y - 1 + 4716) / 4 + 306001 * (m + 12 + 1) / 10000 - 1524 else 2 - y / 100 + y / 100 / 4 + 1461 * (y + 4716) / 4 + 306001 * (m + 1) / 10000 - 1524) = jan1 y + cum (isLeap y) m - 1 := by
  obtain ⟨a, b, c, d, R⟩ := rows y
  have hj := R.jan1
  rw [hj]
  by_cases h2 : m ≤ 2
  · rw [if_pos h2, cum_lo h2, (tab_short hm h2).1]
    obtain ⟨e, b0, b1, c0, c1, d0, d1⟩ := R
    have e2 : (y - 1) / 100 = 4 * a + b := quot (r := 4 * c + d) (by (first | lia | omega)) (by (first | lia | omega)) (by (first | lia | omega))
    have e3 : (4 * a + b) / 4 = a := quot (r := b) (by (first | lia | omega)) b0 (by (first | lia | omega))
    have e4 : 1461 * (y - 1 + 4716) / 4 = 146100 * a + 36525 * b + 1461 * c + 365 * d + 1722519 := quot (r := d) (by (first | lia | omega)) (by (first | lia | omega)) (by (first | lia | omega))
    rw [e2, e3, e4]
    generalize (367 * m - 362) / 12 = q
    clear e e2 e3 e4 b0 b1 c0 c1 d0 d1 hj
    (first | lia | omega)
  · rw [if_neg h2, R.key, cum_hi h2, (tab_long h2 hm').1]
    generalize (367 * m - 362) / 12 = q
    generalize (if isLeap y = true then (1 : Int) else 0) = f
    clear hj R
    (first | lia | omega)
theorem fromg_lo {m d : Int} {lp : Bool} (hm : 1 ≤ m) (h2 : m ≤ 2) : (306 * (m + 1 + 12) / 10 + d - 122 + 59 + if lp = true then 1 else 0) - 365 - (if lp = true then 1 else 0) = cum lp m + d := by
  rw [cum_lo h2, (tab_short hm h2).2]
  generalize (367 * m - 362) / 12 = q
  generalize (if lp = true then (1 : Int) else 0) = f
  clear hm h2
  (first | lia | omega)
theorem fromg_hi {m d : Int} {lp : Bool} (h2 : ¬ m ≤ 2) (hm' : m ≤ 12) : (306 * (m + 1) / 10 + d - 122 + 59 + if lp = true then 1 else 0) = cum lp m + d := by
  rw [cum_hi h2, (tab_long h2 hm').2]
  generalize (367 * m - 362) / 12 = q
  generalize (if lp = true then (1 : Int) else 0) = f
  clear h2 hm'
  (first | lia | omega)
def adjOf (lp : Bool) (yd : Int) : Int := if yd < 58 + (if lp = true then 1 else 0) then 0 else if lp = true then 1 else 2
theorem adj_0 {lp : Bool} {yd : Int} (h : yd < 58 + (if lp = true then 1 else 0)) : 0 = adjOf lp yd := by unfold adjOf; rw [if_pos h]
theorem adj_1 {lp : Bool} {yd : Int} (h : ¬ yd < 58 + (if lp = true then 1 else 0)) (h2 : lp = true) : 1 = adjOf lp yd := by unfold adjOf; rw [if_neg h, if_pos h2]
theorem adj_2 {lp : Bool} {yd : Int} (h : ¬ yd < 58 + (if lp = true then 1 else 0)) (h2 : lp = false) : 2 = adjOf lp yd := by unfold adjOf; rw [if_neg h, if_neg (by rw [h2]; decide)]
/-- the table of all days of a year -/
theorem tab_days : ∀ k : Fin 13, 1 ≤ k.val → ∀ lp : Bool, ∀ d : Fin 32, 0 < (d.val : Int) → (d.val : Int) ≤ mlen lp (k.val : Int) →
    (0 ≤ cum lp (k.val : Int) + (d.val : Int) - 1 ∧ cum lp (k.val : Int) + (d.val : Int) - 1 ≤ 364 + (if lp = true then 1 else 0)) ∧ ((cum lp (k.val : Int) + (d.val : Int) - 1 + adjOf lp (cum lp (k.val : Int) + (d.val : Int) - 1)) * 12 + 373) / 367 = (k.val : Int) := by decide +kernel
theorem mlen_lo (lp : Bool) (m : Int) : 28 ≤ mlen lp m := by unfold mlen; (repeat' split) <;> decide
theorem mlen_hi (lp : Bool) (m : Int) : mlen lp m ≤ 31 := by unfold mlen; (repeat' split) <;> decide
theorem days {m d : Int} {lp : Bool} (hm : 1 ≤ m) (hm' : m ≤ 12) (h0 : 0 < d) (h1 : d ≤ mlen lp m) :
    (0 ≤ cum lp m + d - 1 ∧ cum lp m + d - 1 ≤ 364 + (if lp = true then 1 else 0)) ∧ ((cum lp m + d - 1 + adjOf lp (cum lp m + d - 1)) * 12 + 373) / 367 = m := by
  have h31 := Int.le_trans h1 (mlen_hi lp m)
  obtain ⟨k, rfl⟩ := Int.eq_ofNat_of_zero_le (Int.le_trans (by decide) hm)
  obtain ⟨e, rfl⟩ := Int.eq_ofNat_of_zero_le (Int.le_of_lt h0)
  exact tab_days ⟨k, by (first | lia | omega)⟩ (by show 1 ≤ k; (first | lia | omega)) lp ⟨e, by (first | lia | omega)⟩ h0 h1
theorem cum1 (lp : Bool) : cum lp 1 = 0 := by cases lp <;> decide
/-- a day's number taken apart by the rows -/
theorem apart {x qc r1 cent r2 quad r3 yi r4 : Int} (h : x = 146097 * qc + r1) (a0 : 0 ≤ r1) (a1 : r1 < 146097) (h2 : r1 = 36524 * cent + r2) (b0 : 0 ≤ r2) (b1 : r2 < 36524) (h3 : r2 = 1461 * quad + r3) (c0 : 0 ≤ r3) (c1 : r3 < 1461) (h4 : r3 = 365 * yi + r4) (d0 : 0 ≤ r4) (d1 : r4 < 365) :
    x.fdiv 146097 = qc ∧ x.fmod 146097 = r1 ∧ r1.fdiv 36524 = cent ∧ r1.fmod 36524 = r2 ∧ r2.fdiv 1461 = quad ∧ r2.fmod 1461 = r3 ∧ r3.fdiv 365 = yi := by
  simp (disch := decide) only [Int.fdiv_eq_ediv_of_nonneg, Int.fmod_eq_emod_of_nonneg]
  exact ⟨quot h a0 a1, rem h a0 a1, quot h2 b0 b1, rem h2 b0 b1, quot h3 c0 c1, rem h3 c0 c1, quot h4 d0 d1⟩
theorem fromjd_math {y m d j : Int} (hm : 1 ≤ m) (hm' : m ≤ 12) (h0 : 0 < d) (h1 : d ≤ mlen (isLeap y) m) (hj : j = jan1 y + cum (isLeap y) m + d - 1) :
    ∃ qc dqc cent dcent quad dquad yi yd : Int, (j - 1721426).fdiv 146097 = qc ∧ (j - 1721426).fmod 146097 = dqc ∧ dqc.fdiv 36524 = cent ∧ dqc.fmod 36524 = dcent ∧ dcent.fdiv 1461 = quad ∧ dcent.fmod 1461 = dquad ∧ dquad.fdiv 365 = yi ∧
      (((cent = 4 ∨ yi = 4) ∧ qc * 400 + cent * 100 + quad * 4 + yi = y) ∨ ((cent ≠ 4 ∧ yi ≠ 4) ∧ qc * 400 + cent * 100 + quad * 4 + yi + 1 = y)) ∧
      j - (jan1 y + cum (isLeap y) 1 + 1 - 1) = yd ∧ ((yd + adjOf (isLeap y) yd) * 12 + 373).fdiv 367 = m ∧ j - (jan1 y + cum (isLeap y) m + 1 - 1) + 1 = d := by
  have hb := (days hm hm' h0 h1).1
  have hmo := (days hm hm' h0 h1).2
  have hc1 := cum1 (isLeap y)
  clear h0 h1 hm hm'
  rw [← Int.fdiv_eq_ediv_of_nonneg _ (by decide)] at hmo
  have hday : j - (jan1 y + cum (isLeap y) m + 1 - 1) + 1 = d := by rw [hj]; clear hb hmo hc1 hj; (first | lia | omega)
  have hlast : j - (jan1 y + cum (isLeap y) 1 + 1 - 1) = cum (isLeap y) m + d - 1 := by rw [hj, hc1]; clear hb hmo hc1 hj hday; (first | lia | omega)
  have hX0 : j - 1721426 = jan1 y - 1721426 + (cum (isLeap y) m + d - 1) := by rw [hj]; clear hb hmo hc1 hj hday hlast; (first | lia | omega)
  clear hj hc1
  generalize hyd : cum (isLeap y) m + d - 1 = yd at hb hmo hX0 hlast
  clear hyd
  obtain ⟨a, b, c, e, R⟩ := rows y
  have hl := R.leap
  rw [R.jan1] at hX0
  obtain ⟨ey, b0, b1, c0, c1, e0, e1⟩ := R
  have hX : j - 1721426 = 146097 * a + 36524 * b + 1461 * c + 365 * e + yd := by rw [hX0]; clear hX0 hl ey b0 b1 c0 c1 e0 e1 hb hmo hday hlast; (first | lia | omega)
  clear hX0
  rw [hX]
  by_cases h365 : yd = 365
  · have hlp : isLeap y = true := by
      cases h : isLeap y
      · rw [h] at hb
        subst h365
        exact absurd hb.2 (by decide)
      · rfl
    obtain ⟨q1, q2⟩ := hl.mp hlp
    clear hl hb hlp hX
    subst h365 q1
    by_cases h24 : c = 24
    · have hb3 := q2.resolve_left (fun x => x h24)
      clear q2 b0 b1 c0 c1 e0 e1
      subst hb3 h24
      obtain ⟨g1, g2, g3, g4, g5, g6, g7⟩ := apart (x := 146097 * a + 36524 * 3 + 1461 * 24 + 365 * 3 + 365) (qc := a) (r1 := 146096) (cent := 4) (r2 := 0) (quad := 0) (r3 := 0) (yi := 0) (r4 := 0) (by (first | lia | omega)) (by decide) (by decide) (by decide) (by decide) (by decide) (by decide) (by decide) (by decide) (by decide) (by decide) (by decide)
      exact ⟨a, 146096, 4, 0, 0, 0, 0, 365, g1, g2, g3, g4, g5, g6, g7, .inl ⟨.inl rfl, by (first | lia | omega)⟩, hlast, hmo, hday⟩
    · obtain ⟨g1, g2, g3, g4, g5, g6, g7⟩ := apart (x := 146097 * a + 36524 * b + 1461 * c + 365 * 3 + 365) (qc := a) (r1 := 36524 * b + 1461 * c + 1460) (cent := b) (r2 := 1461 * c + 1460) (quad := c) (r3 := 1460) (yi := 4) (r4 := 0) (by (first | lia | omega)) (by (first | lia | omega)) (by (first | lia | omega)) (by (first | lia | omega)) (by (first | lia | omega)) (by (first | lia | omega)) rfl (by decide) (by decide) (by decide) (by decide) (by decide)
      exact ⟨a, _, b, _, c, 1460, 4, 365, g1, g2, g3, g4, g5, g6, g7, .inl ⟨.inr rfl, by (first | lia | omega)⟩, hlast, hmo, hday⟩
  · have h364 : yd ≤ 364 := by
      have := (ifle (isLeap y)).2
      (first | lia | omega)
    have h0 := hb.1
    clear hl hb hX h365
    obtain ⟨g1, g2, g3, g4, g5, g6, g7⟩ := apart (x := 146097 * a + 36524 * b + 1461 * c + 365 * e + yd) (qc := a) (r1 := 36524 * b + 1461 * c + 365 * e + yd) (cent := b) (r2 := 1461 * c + 365 * e + yd) (quad := c) (r3 := 365 * e + yd) (yi := e) (r4 := yd) (by (first | lia | omega)) (by (first | lia | omega)) (by (first | lia | omega)) (by (first | lia | omega)) (by (first | lia | omega)) (by (first | lia | omega)) (by (first | lia | omega)) (by (first | lia | omega)) (by (first | lia | omega)) rfl h0 (by (first | lia | omega))
    exact ⟨a, _, b, _, c, _, e, yd, g1, g2, g3, g4, g5, g6, g7, .inr ⟨⟨by (first | lia | omega), by (first | lia | omega)⟩, by (first | lia | omega)⟩, hlast, hmo, hday⟩
/-- the Julian calendar -/
def jLeap (y : Int) : Bool := y.fmod 4 == 0
def jan1j (y : Int) : Int := 1721424 + 365 * (y - 1) + (y - 1) / 4
theorem jLeap_iff (y : Int) : jLeap y = true ↔ y % 4 = 0 := by
  unfold jLeap
  rw [Int.fmod_eq_emod_of_nonneg y (by decide)]
  simp
theorem jto_lo {y m d : Int} (hm : 1 ≤ m) (h2 : m ≤ 2) : (1461 * (y - 1 + 4716)).fdiv 4 + (306001 * (m + 12 + 1)).fdiv 10000 + d - 1524 = jan1j y + cum (jLeap y) m + d - 1 := by
  simp (disch := decide) only [Int.fdiv_eq_ediv_of_nonneg]
  rw [cum_lo h2, (tab_short hm h2).1]
  unfold jan1j
  generalize (367 * m - 362) / 12 = q
  clear hm h2
  have e : 1461 * (y - 1 + 4716) / 4 = 365 * (y - 1) + (y - 1) / 4 + 1722519 := by (first | lia | omega)
  rw [e]
  generalize (y - 1) / 4 = p
  (first | lia | omega)
/-- the days before the year behind, by the leap rule -/
theorem four (y : Int) : 1461 * (y + 4716) / 4 = 365 * (y - 1) + (y - 1) / 4 + 1722884 + (if jLeap y = true then 1 else 0) := by
  have hl := jLeap_iff y
  by_cases h : y % 4 = 0
  · rw [if_pos (hl.mpr h)]
    clear hl
    (first | lia | omega)
  · rw [if_neg (fun q => h (hl.mp q))]
    clear hl
    have hk : y = 4 * (y / 4) + y % 4 := (Int.mul_ediv_add_emod y 4).symm
    have h3 : y % 4 = 1 ∨ y % 4 = 2 ∨ y % 4 = 3 := by (first | lia | omega)
    generalize y / 4 = p at hk
    generalize y % 4 = r at hk h3
    clear h
    subst hk
    rcases h3 with rfl | rfl | rfl <;> (first | lia | omega)
theorem jto_hi {y m d : Int} (h2 : ¬ m ≤ 2) (hm' : m ≤ 12) : (1461 * (y + 4716)).fdiv 4 + (306001 * (m + 1)).fdiv 10000 + d - 1524 = jan1j y + cum (jLeap y) m + d - 1 := by
  simp (disch := decide) only [Int.fdiv_eq_ediv_of_nonneg]
  rw [cum_hi h2, (tab_long h2 hm').1, four y]
  unfold jan1j
  generalize (367 * m - 362) / 12 = q
  generalize (y - 1) / 4 = p
  generalize (if jLeap y = true then (1 : Int) else 0) = f
  clear h2 hm'
  (first | lia | omega)
/-- the months from March on: where each begins, how long it is -/
theorem tab_march : ∀ k : Fin 16, 4 ≤ k.val → ∀ lp : Bool,
    (k.val < 14 → cum lp ((k.val : Int) - 1) = 306001 * (k.val : Int) / 10000 - 63 + (if lp = true then 1 else 0) ∧ 306001 * ((k.val : Int) + 1) / 10000 - 306001 * (k.val : Int) / 10000 = mlen lp ((k.val : Int) - 1)) ∧
    (14 ≤ k.val → cum lp ((k.val : Int) - 13) = 306001 * (k.val : Int) / 10000 - 428 ∧ (k.val = 14 → 306001 * ((k.val : Int) + 1) / 10000 - 306001 * (k.val : Int) / 10000 = mlen lp ((k.val : Int) - 13)) ∧ (k.val = 15 → mlen lp ((k.val : Int) - 13) = 28 + (if lp = true then 1 else 0))) ∧
    (306001 * (k.val : Int)) % 10000 ≠ 0 ∧ (k.val = 15 → 306001 * (k.val : Int) / 10000 = 459) := by decide +kernel
theorem jfrom_math (j : Int) : ∃ c dd e y m d : Int, (20 * (j + 1524) - 2442).fdiv 7305 = c ∧ (1461 * c).fdiv 4 = dd ∧ ((j + 1524 - dd) * 10000).fdiv 306001 = e ∧
    ((e < 14 ∧ e - 1 = m) ∨ (¬ e < 14 ∧ e - 13 = m)) ∧ ((2 < m ∧ c - 4716 = y) ∨ (¬ 2 < m ∧ c - 4715 = y)) ∧ j + 1524 - dd - (306001 * e).fdiv 10000 = d ∧
    1 ≤ m ∧ m ≤ 12 ∧ 0 < d ∧ d ≤ mlen (jLeap y) m ∧ jan1j y + cum (jLeap y) m + d - 1 = j := by
  simp (disch := decide) only [Int.fdiv_eq_ediv_of_nonneg]
  generalize hc : (20 * (j + 1524) - 2442) / 7305 = c
  have hk : c = 4 * (c / 4) + c % 4 := (Int.mul_ediv_add_emod c 4).symm
  have i0 : 0 ≤ c % 4 := Int.emod_nonneg _ (by decide)
  have i1 : c % 4 < 4 := Int.emod_lt_of_pos _ (by decide)
  generalize c / 4 = k at hk
  generalize c % 4 = i at hk i0 i1
  have hdd : 1461 * c / 4 = 1461 * k + 365 * i := quot (r := i) (by clear hc i0 i1; (first | lia | omega)) i0 i1
  generalize hx : j + 1524 - (1461 * k + 365 * i) = x
  have hj : j = x + (1461 * k + 365 * i) - 1524 := by clear hc hk i0 i1 hdd; (first | lia | omega)
  have hx0 : 123 ≤ x ∧ x ≤ 488 ∧ (i ≠ 3 → x ≤ 487) := by
    clear hdd hx
    subst hj
    rw [show 20 * (x + (1461 * k + 365 * i) - 1524 + 1524) - 2442 = 20 * x - 2442 + 7300 * i + 7305 * (4 * k) by (first | lia | omega)] at hc
    rw [Int.add_mul_ediv_left _ _ (by decide)] at hc
    have hq : (20 * x - 2442 + 7300 * i) / 7305 = i := by clear i0 i1; (first | lia | omega)
    clear hc hk
    refine ⟨?_, ?_, ?_⟩ <;> (first | lia | omega)
  clear hc
  obtain ⟨x0, x1, x2⟩ := hx0
  generalize he : x * 10000 / 306001 = e
  have hA : 306001 * e ≤ x * 10000 := by rw [← he]; exact Int.mul_ediv_self_le (by decide)
  have hB : x * 10000 < 306001 * e + 306001 := by rw [← he]; exact Int.lt_mul_ediv_self_add (by decide)
  have f0 : 4 ≤ e := by clear hA x1 x2 hdd hx hj he hk; (first | lia | omega)
  have f1 : e ≤ 15 := by clear hB x0 x2 hdd hx hj he hk; (first | lia | omega)
  obtain ⟨kk, rfl⟩ := Int.eq_ofNat_of_zero_le (Int.le_trans (by decide) f0)
  have T := fun lp => tab_march ⟨kk, by clear hA hB x0 x1 x2 hdd hx hj he hk i0 i1; (first | lia | omega)⟩ (by show 4 ≤ kk; clear hA hB x0 x1 x2 hdd hx hj he hk i0 i1; (first | lia | omega)) lp
  have hqa : 306001 * (kk : Int) / 10000 * 10000 ≤ 306001 * (kk : Int) := Int.ediv_mul_le _ (by decide)
  have hqn : ¬ 306001 * (kk : Int) % 10000 = 0 := (T true).2.2.1
  have hqb : x ≤ 306001 * ((kk : Int) + 1) / 10000 := by clear T hqa hqn hA x0 x1 x2 hdd hx hj he hk i0 i1 f0 f1; (first | lia | omega)
  have hd0 : 0 < x - 306001 * (kk : Int) / 10000 := by
    clear T hB hqb x0 x1 x2 hdd hx hj he hk i0 i1 f0 f1
    (first | lia | omega)
  by_cases h14 : kk < 14
  · obtain ⟨t1, t2⟩ := (T (jLeap (c - 4716))).1 h14
    refine ⟨c, 1461 * k + 365 * i, kk, c - 4716, (kk : Int) - 1, x - 306001 * (kk : Int) / 10000, rfl, hdd, by rw [hx]; exact he, .inl ⟨by (first | lia | omega), rfl⟩, .inl ⟨by (first | lia | omega), rfl⟩, by rw [hx], by (first | lia | omega), by (first | lia | omega), hd0, ?_, ?_⟩
    · show _ ≤ mlen _ _
      rw [show mlen (jLeap (c - 4716)) ((kk : Int) - 1) = _ from t2.symm]
      exact Int.sub_le_sub_right hqb _
    · rw [show cum (jLeap (c - 4716)) ((kk : Int) - 1) = _ from t1]
      have h4 := four (c - 4716)
      rw [show c - 4716 + 4716 = c by (first | lia | omega), hdd] at h4
      unfold jan1j
      rw [hj]
      generalize 306001 * (kk : Int) / 10000 = q
      show _ + (q - 63 + (if jLeap (c - 4716) = true then (1 : Int) else 0)) + _ - 1 = _
      generalize (if jLeap (c - 4716) = true then (1 : Int) else 0) = f at h4
      generalize (c - 4716 - 1) / 4 = p at h4
      clear T hB hqb x0 x1 x2 hdd hx hj he i0 i1 f0 f1 hqa hqn hd0 h14 t1 t2 hA
      (first | lia | omega)
  · obtain ⟨t1, t2, t3⟩ := (T (jLeap (c - 4715))).2.1 (by show 14 ≤ kk; (first | lia | omega))
    have h15 : kk = 15 → 306001 * (kk : Int) / 10000 = 459 := (T true).2.2.2
    refine ⟨c, 1461 * k + 365 * i, kk, c - 4715, (kk : Int) - 13, x - 306001 * (kk : Int) / 10000, rfl, hdd, by rw [hx]; exact he, .inr ⟨by (first | lia | omega), rfl⟩, .inr ⟨by (first | lia | omega), rfl⟩, by rw [hx], by (first | lia | omega), by (first | lia | omega), hd0, ?_, ?_⟩
    · by_cases e14 : kk = 14
      · rw [show mlen (jLeap (c - 4715)) ((kk : Int) - 13) = _ from (t2 e14).symm]
        exact Int.sub_le_sub_right hqb _
      · have e15 : kk = 15 := by (first | lia | omega)
        rw [show mlen (jLeap (c - 4715)) ((kk : Int) - 13) = _ from t3 e15]
        rw [h15 e15]
        clear h15
        by_cases h3 : i = 3
        · have hl : jLeap (c - 4715) = true := (jLeap_iff _).mpr (by subst h3; rw [hk]; clear T hB hqb x0 x1 x2 hdd hx hj he i0 i1 f0 f1 hqa hqn hd0 h14 t1 t2 t3 hA; (first | lia | omega))
          rw [if_pos hl]
          clear T hB hqb hdd hx hj he i0 i1 f0 f1 hqa hqn hd0 h14 t1 t2 t3 hA hk
          (first | lia | omega)
        · have := (ifle (jLeap (c - 4715))).1
          have := x2 h3
          clear T hB hqb hdd hx hj he i0 i1 f0 f1 hqa hqn hd0 h14 t1 t2 t3 hA hk
          (first | lia | omega)
    · rw [show cum (jLeap (c - 4715)) ((kk : Int) - 13) = _ from t1]
      have e4 : (c - 4715 - 1) / 4 = k - 1179 := quot (r := i) (by rw [hk]; clear T hB hqb x0 x1 x2 hdd hx hj he i0 i1 f0 f1 hqa hqn hd0 h14 t1 t2 t3 hA h15; (first | lia | omega)) i0 i1
      unfold jan1j
      rw [e4, hj, hk]
      generalize 306001 * (kk : Int) / 10000 = q
      clear T hB hqb x0 x1 x2 hdd hx hj he i0 i1 f0 f1 hqa hqn hd0 h14 t1 t2 t3 hA h15 hk e4
      show _ + (q - 428) + _ - 1 = _
      (first | lia | omega)
theorem len_a {lp : Bool} {m : Int} (h : m = 2) (h2 : lp = true) : 29 = mlen lp m := by subst h; subst h2; rfl
theorem len_b {lp : Bool} {m : Int} (h : m = 2) (h2 : lp = false) : 28 = mlen lp m := by subst h; subst h2; rfl
theorem any4 (m : Int) : ([4, 6, 9, 11].any (· == m) = true) ↔ (m = 4 ∨ m = 6 ∨ m = 9 ∨ m = 11) := by
  simp only [List.any_cons, List.any_nil, Bool.or_eq_true, beq_iff_eq, Bool.false_eq_true, or_false]
  exact ⟨fun h => h.imp Eq.symm (fun h => h.imp Eq.symm (fun h => h.imp Eq.symm Eq.symm)), fun h => h.imp Eq.symm (fun h => h.imp Eq.symm (fun h => h.imp Eq.symm Eq.symm))⟩
theorem len_c {lp : Bool} {m : Int} (h : m ≠ 2) (h2 : [4, 6, 9, 11].any (· == m) = true) : 30 = mlen lp m := by
  unfold mlen
  rw [if_neg h, if_pos ((any4 m).mp h2)]
theorem len_d {lp : Bool} {m : Int} (h : m ≠ 2) (h2 : [4, 6, 9, 11].any (· == m) = false) : 31 = mlen lp m := by
  unfold mlen
  rw [if_neg h, if_neg (fun q => by rw [(any4 m).mpr q] at h2; cases h2)]
end Mine

end

section
namespace Mine
structure MrFacts (y m j0 v : Int) : Prop where
  h1 : 2 < m → isLeap y = true → j0 + (List.take m.toNat [0, 31, 28, 31, 30, 31, 30, 31, 31, 30, 31, 30, 31]).sum + 1 = v
  h2 : ¬ 2 < m → j0 + (List.take m.toNat [0, 31, 28, 31, 30, 31, 30, 31, 31, 30, 31, 30, 31]).sum = v
  h3 : isLeap y = false → j0 + (List.take m.toNat [0, 31, 28, 31, 30, 31, 30, 31, 31, 30, 31, 30, 31]).sum = v
theorem mr_tab {m : Int} (hm : 1 ≤ m) (hm' : m ≤ 12) : ((2 < m → (List.take m.toNat [0, 31, 28, 31, 30, 31, 30, 31, 31, 30, 31, 30, (31 : Int)]).sum + 1 = cum true m) ∧ (¬ 2 < m → ∀ lp, (List.take m.toNat [0, 31, 28, 31, 30, 31, 30, 31, 31, 30, 31, 30, (31 : Int)]).sum = cum lp m) ∧ (List.take m.toNat [0, 31, 28, 31, 30, 31, 30, 31, 31, 30, 31, 30, (31 : Int)]).sum = cum false m) ∧
    (m = 2 → [0, 31, 28, 31, 30, 31, 30, 31, 31, 30, 31, 30, (31 : Int)].getD m.toNat 0 + 1 = mlen true m) ∧ (m ≠ 2 → ∀ lp, [0, 31, 28, 31, 30, 31, 30, 31, 31, 30, 31, 30, (31 : Int)].getD m.toNat 0 + 0 = mlen lp m) ∧ [0, 31, 28, 31, 30, 31, 30, 31, 31, 30, 31, 30, (31 : Int)].getD m.toNat 0 + 0 = mlen false m :=
  byMonth (P := fun m => ((2 < m → (List.take m.toNat [0, 31, 28, 31, 30, 31, 30, 31, 31, 30, 31, 30, (31 : Int)]).sum + 1 = cum true m) ∧ (¬ 2 < m → ∀ lp, (List.take m.toNat [0, 31, 28, 31, 30, 31, 30, 31, 31, 30, 31, 30, (31 : Int)]).sum = cum lp m) ∧ (List.take m.toNat [0, 31, 28, 31, 30, 31, 30, 31, 31, 30, 31, 30, (31 : Int)]).sum = cum false m) ∧
    (m = 2 → [0, 31, 28, 31, 30, 31, 30, 31, 31, 30, 31, 30, (31 : Int)].getD m.toNat 0 + 1 = mlen true m) ∧ (m ≠ 2 → ∀ lp, [0, 31, 28, 31, 30, 31, 30, 31, 31, 30, 31, 30, (31 : Int)].getD m.toNat 0 + 0 = mlen lp m) ∧ [0, 31, 28, 31, 30, 31, 30, 31, 31, 30, 31, 30, (31 : Int)].getD m.toNat 0 + 0 = mlen false m) 13 (by decide +kernel) hm (Int.lt_of_le_of_lt hm' (by decide))
theorem mr_facts {y m : Int} (hm : 1 ≤ m) (hm' : m ≤ 12) : ∃ j0 v : Int, 365 * (y - 1) + (y - 1).fdiv 4 - (y - 1).fdiv 100 + (y - 1).fdiv 400 = j0 ∧ MrFacts y m j0 v ∧ v.fmod 7 = (jan1 y + cum (isLeap y) m).fmod 7 := by
  obtain ⟨⟨t1, t2, t3⟩, _⟩ := mr_tab hm hm'
  clear hm hm'
  generalize hS : (List.take m.toNat [0, 31, 28, 31, 30, 31, 30, 31, 31, 30, 31, 30, (31 : Int)]).sum = S at t1 t2 t3
  refine ⟨jan1 y - 1721426, jan1 y + cum (isLeap y) m - 1721426, ?_, ?_, ?_⟩
  · simp (disch := decide) only [Int.fdiv_eq_ediv_of_nonneg]
    unfold jan1
    generalize (y - 1) / 4 = a
    generalize (y - 1) / 100 = b
    generalize (y - 1) / 400 = c
    clear hS t1 t2 t3
    (first | lia | omega)
  · generalize jan1 y = J
    constructor
    · intro h2 hl
      have h := t1 h2
      rw [hS, hl]
      clear hS t1 t2 t3 h2
      (first | lia | omega)
    · intro h2
      have h := t2 h2 (isLeap y)
      rw [hS]
      clear hS t1 t2 t3 h2
      (first | lia | omega)
    · intro hl
      rw [hS, hl]
      clear hS t1 t2
      (first | lia | omega)
  · rw [Int.fmod_eq_emod_of_nonneg _ (by decide), Int.fmod_eq_emod_of_nonneg _ (by decide)]
    generalize jan1 y + cum (isLeap y) m = X
    clear hS t1 t2 t3
    (first | lia | omega)
theorem mr_len {y m : Int} (hm : 1 ≤ m) (hm' : m ≤ 12) : (m = 2 → isLeap y = true → [0, 31, 28, 31, 30, 31, 30, 31, 31, 30, 31, 30, 31].getD m.toNat 0 + 1 = mlen (isLeap y) m) ∧ (m ≠ 2 → [0, 31, 28, 31, 30, 31, 30, 31, 31, 30, 31, 30, 31].getD m.toNat 0 + 0 = mlen (isLeap y) m) ∧ (isLeap y = false → [0, 31, 28, 31, 30, 31, 30, 31, 31, 30, 31, 30, 31].getD m.toNat 0 + 0 = mlen (isLeap y) m) := by
  obtain ⟨_, t1, t2, t3⟩ := mr_tab hm hm'
  exact ⟨fun h hl => by rw [hl]; exact t1 h, fun h => t2 h _, fun hl => by rw [hl]; exact t3⟩
end Mine

end

section
namespace Mine
theorem Rows.parts {y a b c d : Int} (R : Rows y a b c d) : ((y - 1) / 400 = a ∧ (y - 1) % 400 = 100 * b + 4 * c + d) ∧ ((100 * b + 4 * c + d) / 100 = b ∧ (100 * b + 4 * c + d) % 100 = 4 * c + d) ∧ (4 * c + d) / 4 = c ∧ (100 * b + 4 * c + d) % 4 = d := by
  obtain ⟨e, b0, b1, c0, c1, d0, d1⟩ := R
  have e0 : y - 1 = 400 * a + (100 * b + 4 * c + d) := by clear b0 b1 c0 c1 d0 d1; (first | lia | omega)
  clear e
  have h0 : 0 ≤ 4 * c + d := by clear b0 b1 c1 e0 d1; (first | lia | omega)
  have h1 : 4 * c + d < 100 := by clear b0 b1 c0 e0 d0; (first | lia | omega)
  have h2 : 0 ≤ 100 * b + 4 * c + d := by clear b1 c1 e0 d1 h1; (first | lia | omega)
  have h3 : 100 * b + 4 * c + d < 400 := by clear b0 c0 e0 d0 h0; (first | lia | omega)
  have h4 : d < 4 := by clear b0 b1 c0 c1 e0 h0 h1 h2 h3; (first | lia | omega)
  have e1 := Int.add_assoc (100 * b) (4 * c) d
  have e2 : 100 * b + 4 * c + d = 4 * (25 * b + c) + d := by clear b0 b1 c0 c1 e0 h0 h1 h2 h3 h4 e1; (first | lia | omega)
  exact ⟨⟨quot e0 h2 h3, rem e0 h2 h3⟩, ⟨quot e1 h0 h1, rem e1 h0 h1⟩, quot rfl d0 h4, rem e2 d0 h4⟩
theorem begin_math (y : Int) : 1721426 + 146097 * (y - 1).fdiv 400 + 36524 * ((y - 1).fmod 400).fdiv 100 + 1461 * (((y - 1).fmod 400).fmod 100).fdiv 4 + 365 * ((y - 1).fmod 400).fmod 4 = jan1 y := by
  obtain ⟨a, b, c, d, R⟩ := rows y
  obtain ⟨⟨e1, e2⟩, ⟨e3, e4⟩, e5, e6⟩ := R.parts
  simp (disch := decide) only [Int.fdiv_eq_ediv_of_nonneg, Int.fmod_eq_emod_of_nonneg]
  rw [R.jan1, e1, e2, e3, e4, e5, e6]
theorem elder_math (y : Int) : 1721424 + 365 * (y - 1) + (y - 1).fdiv 4 = jan1j y := by
  simp (disch := decide) only [Int.fdiv_eq_ediv_of_nonneg]
  rfl
theorem long_1 {y : Int} (h : (y - 1).fmod 400 = 399) : isLeap y = true := by
  rw [Int.fmod_eq_emod_of_nonneg _ (by decide)] at h
  obtain ⟨a, b, c, d, R⟩ := rows y
  rw [R.parts.1.2] at h
  refine R.leap.mpr ?_
  obtain ⟨e, b0, b1, c0, c1, d0, d1⟩ := R
  clear e
  have hb : b = 3 := by (first | lia | omega)
  exact ⟨by (first | lia | omega), .inr hb⟩
theorem long_2 {y : Int} (_h : (y - 1).fmod 400 ≠ 399) (h2 : ((y - 1).fmod 400).fmod 4 ≠ 3) : isLeap y = false := by
  simp (disch := decide) only [Int.fmod_eq_emod_of_nonneg] at h2
  obtain ⟨a, b, c, d, R⟩ := rows y
  rw [R.parts.1.2, R.parts.2.2.2] at h2
  exact Bool.eq_false_iff.mpr fun hl => h2 (R.leap.mp hl).1
theorem long_3 {y : Int} (h : (y - 1).fmod 400 ≠ 399) (h2 : ((y - 1).fmod 400).fmod 4 = 3) : (((y - 1).fmod 400).fmod 100 != 99) = isLeap y := by
  simp (disch := decide) only [Int.fmod_eq_emod_of_nonneg] at h h2 ⊢
  obtain ⟨a, b, c, d, R⟩ := rows y
  rw [R.parts.1.2] at h
  rw [R.parts.1.2, R.parts.2.2.2] at h2
  rw [R.parts.1.2, R.parts.2.1.2]
  subst h2
  by_cases hc : c = 24
  · subst hc
    exact (Bool.eq_false_iff.mpr fun hl => h (by rw [(R.leap.mp hl).2.resolve_left (fun q => q rfl)]; rfl)).symm
  · rw [R.leap.mpr ⟨rfl, .inl hc⟩]
    exact bne_iff_ne.mpr (by clear R h; (first | lia | omega))
def lateOf (y : Int) : Int := if jLeap y = true ∧ isLeap y = false then 1 else 0
theorem late_1 {y : Int} (h : y.fmod 4 = 0) (h2 : isLeap y = false) : 1 = lateOf y := by
  have h3 : jLeap y = true := by unfold jLeap; rw [h]; rfl
  unfold lateOf
  rw [if_pos ⟨h3, h2⟩]
theorem late_2 {y : Int} (h : isLeap y = true) : 0 = lateOf y := by
  unfold lateOf
  rw [if_neg (by rw [h]; simp)]
theorem late_3 {y : Int} (h : y.fmod 4 ≠ 0) : 0 = lateOf y := by
  have h3 : jLeap y = false := by unfold jLeap; simpa using h
  unfold lateOf
  rw [if_neg (by rw [h3]; simp)]
/-- the Julian first of a month -/
theorem elder_month {y m : Int} (_hm : 1 ≤ m) : jan1j y + cum (jLeap y) m + 1 - 1 = jan1j y + cum (isLeap y) m + (if 2 < m then lateOf y else 0) := by
  have hjl : isLeap y = true → jLeap y = true := fun h => (jLeap_iff y).mpr ((isLeap_iff y).mp h).1
  by_cases h2 : m ≤ 2
  · rw [cum_lo h2, cum_lo h2, if_neg (Int.not_lt.mpr h2), Int.add_sub_cancel, Int.add_zero]
  · rw [cum_hi h2, cum_hi h2, if_pos (Int.not_le.mp h2)]
    unfold lateOf
    generalize (367 * m - 362) / 12 = q
    generalize jan1j y = J
    clear h2 _hm
    cases hl : isLeap y
    · cases hj : jLeap y
      · show J + (q + 0 - 2) + 1 - 1 = J + (q + 0 - 2) + 0
        clear hjl hl hj
        (first | lia | omega)
      · show J + (q + 1 - 2) + 1 - 1 = J + (q + 0 - 2) + 1
        clear hjl hl hj
        (first | lia | omega)
    · rw [hjl hl]
      show J + (q + 1 - 2) + 1 - 1 = J + (q + 1 - 2) + 0
      clear hjl hl
      (first | lia | omega)
theorem mtab (lp : Bool) {m : Int} (hm : 1 ≤ m) (hm' : m ≤ 12) : ∀ lp : Bool, cum lp m + mlen lp m = cum lp (m + 1) ∧ [31, mlen lp 2, 31, 30, 31, 30, 31, 31, 30, 31, 30, 31].getD (m - 1).toNat 0 = mlen lp m :=
  byMonth (P := fun m => ∀ lp : Bool, cum lp m + mlen lp m = cum lp (m + 1) ∧ [31, mlen lp 2, 31, 30, 31, 30, 31, 31, 30, 31, 30, 31].getD (m - 1).toNat 0 = mlen lp m) 13 (by decide +kernel) hm (Int.lt_of_le_of_lt hm' (by decide))
theorem cum_step (lp : Bool) {m : Int} (hm : 1 ≤ m) (hm' : m ≤ 12) : cum lp m + mlen lp m = cum lp (m + 1) := (mtab lp hm hm' lp).1
theorem lengths_get (lp : Bool) {m : Int} (hm : 1 ≤ m) (hm' : m ≤ 12) : [31, mlen lp 2, 31, 30, 31, 30, 31, 31, 30, 31, 30, 31].getD (m - 1).toNat 0 = mlen lp m := (mtab lp hm hm' lp).2
end Mine

end

namespace Mine
open PySem PySem.W PyProof.Rows in
set_option maxRecDepth 100000 in
set_option maxHeartbeats 8000000 in
open_top hd for PySem.Challenge.rw_ah0016_01
end Mine

local macro_rules | `(tactic| walk_at $s:str) => `(tactic| k_extra $s)

section
open PySem PySem.W PyProof.Rows
namespace Mine

theorem three {vs : List Value} {ns : List Int} (hi : IntsAre vs ns) (h : ns.length = 3) :
    ∃ (a b c : Int) (t u v : Tok), vs = [.int a t, .int b u, .int c v] := by
  cases hi with
  | nil => simp at h
  | cons a t h1 =>
    cases h1 with
    | nil => simp at h
    | cons b u h2 =>
      cases h2 with
      | nil => simp at h
      | cons c v h3 =>
        cases h3 with
        | nil => exact ⟨a, b, c, t, u, v, rfl⟩
        | cons _ _ _ => simp at h

section
variable {prog : Program} {w : World} {A : Around} {E : Value → Shared → Prop} {s : Shared} {h₀ : Heap} {L l : Addr} {m : Str → Option Value} {news : List (Addr × Obj)} {value slice : PySem.Expr} {vs : List Value} {ns : List Int} {vl vu : Value} {Q : Value → Shared → Prop}
theorem head3 (F : Fr h₀ L s.heap m) (N : News h₀ L s.heap news) (hl : s.heap.IsList l vs.toArray) (pl : IsPart vl none) (pu : IsPart vu (some 3)) (hi : IntsAre vs ns) (hn : 3 ≤ ns.length)
    (h : ∀ D h' (a b c : Int) (t u v : Tok), Fr h₀ L h' m → News h₀ L h' ((D, PySem.W.listOf #[.int a t, .int b u, .int c v] 0) :: news) → (∀ p ∈ news, p.1 < D) → Q (.ref D) { s with heap := h' })
    (hs : subscripted slice false (.ref l) (.ref s.heap.objs.size) = operate [.ref s.heap.objs.size, .ref l] (getItem (.ref l) (.ref s.heap.objs.size))) (hz : vs.toArray.size ≤ sizeLine) :
    wpAny (model prog w) A (subscriptTail value slice (.ref l) (.ref s.heap.objs.size)) Q E { s with heap := s.heap.push { cls := .type "slice", data := .fields #[vl, vu, .none] } } := by
  refine kba_turn (value' := PySem.Expr.Name (PySem.Str.ofString "_") ⟨0, 0, 0, 0⟩) (fun _ => rfl) ?_
  refine kmk_slice F N hl pl pu (fun D h' F' N' l1 => ?_) hs (fun _ => rfl) hz
  have hj := kmk_upto (vs := vs) (ns := ns) (y := 3) hi (by decide)
  obtain ⟨a, b, c, t, u, v, e⟩ := three hj (by simp; omega)
  have e' : slicePick vs.toArray none (some 3) none = #[.int a t, .int b u, .int c v] := by
    apply Array.toList_inj.mp
    rw [e]
  rw [e'] at N'
  exact h D h' a b c t u v F' N' l1
theorem in_K {K : Frag} {a : Addr} {l : List Value} {dd : Option Addr} {n : Nat} {sl : Array (Option Value)} {x : Int} {u : Tok} (b : Bool) {Qv : Value → Shared → Prop} (F : Fr h₀ L s.heap m) (X₀ : K.In h₀) (hl : K.lookup a = some ⟨.type "tuple", dd, .seq l.toArray n, sl⟩) (hi : IntsAre l ns) (hb : ns.any (· == x) = b)
    (h : Qv (.bool b) s) : wpAny (model prog w) A (compareOp .In (.int x u) (.ref a)) Qv E s :=
  in_tuple_ints (tupK (X₀.keeps F.keep) hl) hi (by rw [hb]; exact h)
end
end Mine

end

section
open PySem PySem.W PyProof.Rows PySem.Spec PySem.Calls
namespace Mine
/-- the claim for a call of the def at address f -/
def Cl (w : World) (f : Addr) (dn un' : Nat) (news : List (Addr × Obj)) (vs : List Value)
    (Ret : Heap → Addr → (Str → Option Value) → Shared → (Value → Shared → Prop) → Prop) : Prop :=
  ∀ (loose : List Str) (mean : ExcName → Option Value) (mg mb : Str → Option Value)
    (dp un : Nat) (gd : Option (List Code)) (cn : Str) (cs : Scope) (a : Addr) (ccd : Value) (cl : List (Str × Addr)) (outer : List Env) (A₀ : Around) (base h₀ : Heap) (L : Addr) (m : Str → Option Value) (s : Shared) (Q E : Value → Shared → Prop),
    Below A₀ base outer h₀ → Fr h₀ L s.heap m → (hd.heap_39 w.params).In h₀ → News h₀ L s.heap news → Top hd.view_39 loose mean mg mb h₀ → cs.kind = .function →
    dp + dn < recursionLimit → un + un' < cLine → Ret h₀ L m s Q →
      wpAny (model PySem.Challenge.rw_ah0016_01.row.prog w) (ktrTop dp un gd cn cs L a ccd cl outer) (call (.ref f) vs) Q E s

/-- gives back a value; the ledger stays -/
def RetV (news : List (Addr × Obj)) (R : Tok → Value) (h₀ : Heap) (L : Addr) (m : Str → Option Value) (s : Shared) (Q : Value → Shared → Prop) : Prop :=
  ∀ (t : Tok) (h' : Heap) (tk' : Nat), Fr h₀ L h' m → News h₀ L h' news → Q (R t) { s with heap := h', toks := tk' }

/-- gives back a tuple of two ints -/
def RetT2 (news : List (Addr × Obj)) (a b : Int) (h₀ : Heap) (L : Addr) (m : Str → Option Value) (s : Shared) (Q : Value → Shared → Prop) : Prop :=
  ∀ (D : Addr) (t u : Tok) (c : Nat) (h' : Heap) (tk' : Nat), Fr h₀ L h' m → News h₀ L h' ((D, ({ cls := .type "tuple", data := .seq #[.int a t, .int b u] c } : Obj)) :: news) → (∀ p ∈ news, p.1 < D) → Q (.ref D) { s with heap := h', toks := tk' }
/-- gives back a tuple of three ints -/
def RetT3 (news : List (Addr × Obj)) (a b c : Int) (h₀ : Heap) (L : Addr) (m : Str → Option Value) (s : Shared) (Q : Value → Shared → Prop) : Prop :=
  ∀ (D : Addr) (t u v : Tok) (n : Nat) (h' : Heap) (tk' : Nat), Fr h₀ L h' m → News h₀ L h' ((D, ({ cls := .type "tuple", data := .seq #[.int a t, .int b u, .int c v] n } : Obj)) :: news) → (∀ p ∈ news, p.1 < D) → Q (.ref D) { s with heap := h', toks := tk' }

theorem ret2_end {news : List (Addr × Obj)} {a b a' b' : Int} {h₀ h' : Heap} {L D : Addr} {m : Str → Option Value} {s : Shared} {Q : Value → Shared → Prop} {t u : Tok} {c tk' : Nat} (hret : RetT2 news a b h₀ L m s Q) (F : Fr h₀ L h' m)
    (N : News h₀ L h' ((D, ({ cls := .type "tuple", data := .seq #[.int a' t, .int b' u] c } : Obj)) :: news)) (l : ∀ p ∈ news, p.1 < D) (e1 : a' = a) (e2 : b' = b) : Q (.ref D) { s with heap := h', toks := tk' } := by
  subst e1; subst e2
  exact hret D t u c h' tk' F N l
theorem ret3_end {news : List (Addr × Obj)} {a b c a' b' c' : Int} {h₀ h' : Heap} {L D : Addr} {m : Str → Option Value} {s : Shared} {Q : Value → Shared → Prop} {t u v : Tok} {n tk' : Nat} (hret : RetT3 news a b c h₀ L m s Q) (F : Fr h₀ L h' m)
    (N : News h₀ L h' ((D, ({ cls := .type "tuple", data := .seq #[.int a' t, .int b' u, .int c' v] n } : Obj)) :: news)) (l : ∀ p ∈ news, p.1 < D) (e1 : a' = a) (e2 : b' = b) (e3 : c' = c) : Q (.ref D) { s with heap := h', toks := tk' } := by
  subst e1; subst e2; subst e3
  exact hret D t u v n h' tk' F N l

set_option maxRecDepth 100000 in
set_option maxHeartbeats 8000000 in
theorem c_isleap (w : World) (news : List (Addr × Obj)) (y : Int) (t : Tok) : Cl w 22 2 20 news [.int y t] (RetV news (fun _ => .bool (isLeap y))) := by
  unfold Cl RetV
  w_top off
  k_with_none
  k_fill
  intro loose mean mg mb dp un gd cn cs a ccd cl outer A₀ base h₀ L m s Q E B F X N T hk hdp hu hret
  refine wpAny_call ?_
  k_dflt cell_enter
  k_steps
  all_goals refine cb_retB hret ?_ (by k_asm) (by k_asm)
  all_goals (simp_all [isLeap]; done)

theorem useCl {w : World} {f : Addr} {dn un' : Nat} {news : List (Addr × Obj)} {vs : List Value} {Ret : Heap → Addr → (Str → Option Value) → Shared → (Value → Shared → Prop) → Prop}
    {loose : List Str} {mean : ExcName → Option Value} {mg mb : Str → Option Value}
    {dp un : Nat} {gd : Option (List Code)} {cn : Str} {cs : Scope} {a : Addr} {ccd : Value} {cl : List (Str × Addr)} {outer : List Env} {A₀ : Around} {base h₀ : Heap} {L : Addr} {m : Str → Option Value} {s : Shared} {Q E : Value → Shared → Prop}
    (C : Cl w f dn un' news vs Ret) (B : Below A₀ base outer h₀) (F : Fr h₀ L s.heap m) (X : (hd.heap_39 w.params).In h₀) (N : News h₀ L s.heap news) (T : Top hd.view_39 loose mean mg mb h₀) (hk : cs.kind = .function)
    (hdp : dp + dn < recursionLimit) (hu : un + un' < cLine) (ret : Ret h₀ L m s Q) :
    wpAny (model PySem.Challenge.rw_ah0016_01.row.prog w) (ktrTop dp un gd cn cs L a ccd cl outer) (call (.ref f) vs) Q E s :=
  C _ _ _ _ _ _ _ _ _ _ _ _ _ _ _ _ _ _ _ _ _ B F X N T hk hdp hu ret
end Mine

end

section
open PySem PySem.W PyProof.Rows PySem.Spec PySem.Calls
namespace Mine
/-- a marker: the name is to hold this int -/
structure Named (x : String) (v : Int) : Prop where
  mk ::

section
variable {M : Model} {A : Around} {E : Value → Shared → Prop} {s : Shared} {h₀ h' : Heap} {L : Addr} {m : Str → Option Value} {news : List (Addr × Obj)} {st : Stmt} {env : Env} {Q : Flow → Shared → Prop} {x : String} {v v' : Int} {t : Tok} {tk' : Nat}
def JInt (h₀ : Heap) (L : Addr) (m : Str → Option Value) (x : String) (v : Int) (news : List (Addr × Obj)) (s : Shared) (fl : Flow) (s' : Shared) : Prop :=
  fl = .next ∧ ∃ h' tk' t, s' = { s with heap := h', toks := tk' } ∧ Fr h₀ L h' (fun z => if z = Str.ofString x then some (.int v t) else m z) ∧ News h₀ L h' news
theorem joinInt (_hn : Named x v) (_F : Fr h₀ L s.heap m) (_N : News h₀ L s.heap news)
    (h1 : wpAny M A (exec st env) (JInt h₀ L m x v news s) E s)
    (h2 : ∀ h' tk' t, Fr h₀ L h' (fun z => if z = Str.ofString x then some (.int v t) else m z) → News h₀ L h' news → Q .next { s with heap := h', toks := tk' }) : wpAny M A (exec st env) Q E s := by
  refine wpAny_mono h1 (fun fl s' hq => ?_) fun _ _ h => h
  obtain ⟨e, h', tk', t, e', F', N'⟩ := hq
  subst e; subst e'
  exact h2 h' tk' t F' N'
theorem jint_stored (e : v' = v) (F : Fr h₀ L h' (fun z => if z = Str.ofString x then some (.int v' t) else m z)) (N : News h₀ L h' news) : JInt h₀ L m x v news s .next { s with heap := h', toks := tk' } := by
  subst e
  exact ⟨rfl, h', tk', t, rfl, F, N⟩
theorem jint_kept (e : v' = v) (hm : m (Str.ofString x) = some (.int v' t)) (F : Fr h₀ L h' m) (N : News h₀ L h' news) : JInt h₀ L m x v news s .next { s with heap := h', toks := tk' } := by
  subst e
  refine ⟨rfl, h', tk', t, rfl, ?_, N⟩
  have em : (fun z => if z = Str.ofString x then some (.int v' t) else m z) = m := by
    funext z
    by_cases hz : z = Str.ofString x
    · rw [if_pos hz, hz, hm]
    · rw [if_neg hz]
  rw [em]
  exact F
def JSame (h₀ : Heap) (L : Addr) (m : Str → Option Value) (news : List (Addr × Obj)) (s : Shared) (fl : Flow) (s' : Shared) : Prop :=
  fl = .next ∧ ∃ h' tk', s' = { s with heap := h', toks := tk' } ∧ Fr h₀ L h' m ∧ News h₀ L h' news
theorem joinSame (_F : Fr h₀ L s.heap m) (_N : News h₀ L s.heap news)
    (h1 : wpAny M A (exec st env) (JSame h₀ L m news s) E s)
    (h2 : ∀ h' tk', Fr h₀ L h' m → News h₀ L h' news → Q .next { s with heap := h', toks := tk' }) : wpAny M A (exec st env) Q E s := by
  refine wpAny_mono h1 (fun fl s' hq => ?_) fun _ _ h => h
  obtain ⟨e, h', tk', e', F', N'⟩ := hq
  subst e; subst e'
  exact h2 h' tk' F' N'
theorem jsame_end (F : Fr h₀ L h' m) (N : News h₀ L h' news) : JSame h₀ L m news s .next { s with heap := h', toks := tk' } := ⟨rfl, h', tk', rfl, F, N⟩
end
section
variable {prog : Program} {w : World} {A : Around} {E : Value → Shared → Prop} {s : Shared} {a b q : Int} {t u : Tok} {Q : Value → Shared → Prop}
theorem fdiv_as (hq : a.fdiv b = q) (hb : b ≠ 0) (h : Q (.int q s.toks) { s with toks := s.toks + 1 }) (hp : Builtin.divisionGoesByPylong a b = false ∨ PySem.PylongRoom (model prog w) A s) : wpAny (model prog w) A (binaryOp .FloorDiv (.int a t) (.int b u)) Q E s :=
  floordiv_int hb (by rw [hq]; exact h) hp
theorem fmod_as (hq : a.fmod b = q) (hb : b ≠ 0) (h : Q (.int q s.toks) { s with toks := s.toks + 1 }) : wpAny (model prog w) A (binaryOp .Mod (.int a t) (.int b u)) Q E s :=
  mod_int' hb (by rw [hq]; exact h)
end
theorem add_as {prog : Program} {w : World} {A : Around} {E : Value → Shared → Prop} {s : Shared} {a b q : Int} {t u : Tok} {Q : Value → Shared → Prop} (hq : a + b = q) (h : Q (.int q s.toks) { s with toks := s.toks + 1 }) : wpAny (model prog w) A (binaryOp .Add (.int a t) (.int b u)) Q E s :=
  add_int (by rw [hq]; exact h)
theorem sub_as {prog : Program} {w : World} {A : Around} {E : Value → Shared → Prop} {s : Shared} {a b q : Int} {t u : Tok} {Q : Value → Shared → Prop} (hq : a - b = q) (h : Q (.int q s.toks) { s with toks := s.toks + 1 }) : wpAny (model prog w) A (binaryOp .Sub (.int a t) (.int b u)) Q E s :=
  sub_int (by rw [hq]; exact h)
end Mine

end

section
open PySem PySem.W PyProof.Rows PySem.Spec PySem.Calls
namespace Mine
section
variable {prog : Program} {w : World} {A : Around} {E : Value → Shared → Prop} {s : Shared} {h₀ : Heap} {L : Addr} {m : Str → Option Value} {news : List (Addr × Obj)}
theorem sliceApplied_upto {sl : Addr} {b n : Nat} {u : Tok} {Q : Int × Int × Nat → Shared → Prop} (hs : s.heap.IsSliceOf sl .none (.int b u) .none) (hb : b ≤ n) (h : Q (0, 1, b) s) :
    wpAny (model prog w) A (Builtin.Slice.sliceApplied (.ref sl) (pure (n : Int))) Q E s := by
  obtain ⟨os, hos, hcs, hds⟩ := id hs
  have had : Builtin.Slice.sliceAdjust none (some (b : Int)) 1 (n : Int) = (0, (b : Int)) := by
    unfold Builtin.Slice.sliceAdjust
    have h1 : ¬ ((1 : Int) < 0) := by omega
    have h2 : ¬ ((b : Int) < 0) := by omega
    simp only [h1, h2, if_false]
    congr 1
    omega
  have hpl : Builtin.Slice.slicePlaces 0 (b : Int) 1 = b := by
    unfold Builtin.Slice.slicePlaces
    have h1 : (1 : Int) > 0 := by omega
    simp only [h1, if_true, Int.ediv_one]
    split <;> omega
  unfold Builtin.Slice.sliceApplied Builtin.Slice.sliceFields
  refine wpAny_bind (wpAny_bind (wpAny_field hos hds (x := .none) rfl (wpAny_bind (wpAny_field hos hds (x := .int b u) rfl (wpAny_bind (wpAny_field hos hds (x := .none) rfl (wpAny_pure ?_)))))))
  refine wpAny_bind (slicePart_none ?_)
  show wpAny _ _ (if ((1 : Int) == 0) = true then _ else _) _ _ s
  rw [if_neg (by decide)]
  refine wpAny_bind (slicePart_none (wpAny_bind (slicePart_int (wpAny_bind (wpAny_pure ?_)))))
  show wpAny _ _ (match Builtin.Slice.sliceAdjust none (some (b : Int)) 1 (n : Int) with | (lo, hi) => pure (lo, (1 : Int), Builtin.Slice.slicePlaces lo hi 1)) _ _ s
  rw [had]
  show wpAny _ _ (pure ((0 : Int), (1 : Int), Builtin.Slice.slicePlaces 0 (b : Int) 1)) _ _ s
  rw [hpl]
  exact wpAny_pure h
theorem pick_upto (xs : Array Value) (b : Nat) : ((List.range b).filterMap fun (k : Nat) => xs[((0 : Int) + (k : Int) * 1).toNat]?).toArray = (xs.toList.take b).toArray := by
  have e : (fun (k : Nat) => xs[((0 : Int) + (k : Int) * 1).toNat]?) = fun k => xs[0 + k]? := by
    funext k
    have : ((0 : Int) + (k : Int) * 1).toNat = 0 + k := by omega
    rw [this]
  rw [e]
  have := pick_run xs 0 b
  rw [List.filterMap_map] at this
  have e2 : ((fun x => xs[x]?) ∘ fun x => 0 + x) = fun k => xs[0 + k]? := rfl
  rw [e2] at this
  rw [this, List.drop_zero]
theorem getItem_tuple_upto {t sl : Addr} {items : Array Value} {b : Nat} {u : Tok} {Q : Value → Shared → Prop} (ht : IsTup s.heap t items) (hs : s.heap.IsSliceOf sl .none (.int b u) .none) (hb : b < items.size)
    (h : Q (.ref s.heap.objs.size) { s with heap := s.heap.push { cls := .type "tuple", data := .seq (items.toList.take b).toArray } })
    (hsz : items.size ≤ sizeLine) : wpAny (model prog w) A (getItem (.ref t) (.ref sl)) Q E s := by
  have hok : sizeOk (.seq (items.toList.take b).toArray) := by
    show (items.toList.take b).toArray.size ≤ sizeLine
    rw [List.size_toArray, List.length_take, Array.length_toList]
    omega
  obtain ⟨os, hos, hcs, hds⟩ := id hs
  have hTs : s.TypeIs (.ref sl) "slice" := ⟨os, hos, hcs⟩
  unfold getItem
  try with_reducible refine wpAny_holding ?_
  first | refine wpAny_bind (wpAny_pure ?_) | skip
  refine wpAny_bind (wpAny_sequenceKey ht.typeIs (by decide) ?_)
  refine wpAny_bind (wpAny_callSpecial?_slot (name := Str.ofString "__getitem__") ht.typeIs slot_tuple_getitem
    (wpAny_call_entry slot_tuple_getitem ht.typeIs entry_tuple_getitem ?_ (args_tuple_getitem _ _)))
  show wpAny _ _ (Builtin.Tuple.tupleItemsOf (.ref t) >>= _) _ _ s
  refine wpAny_bind (tupleItemsOf_ ht ?_)
  refine wpAny_bind (wpAny_typeOf hTs ?_)
  rw [if_pos (by decide)]
  refine wpAny_bind (sliceApplied_upto hs (Nat.le_of_lt hb) ?_)
  have hno : ¬ (((0 : Int) == 0 && (1 : Int) == 1 && b == items.size) = true) := by
    have : (b == items.size) = false := by rw [beq_eq_false_iff_ne]; omega
    rw [this]; simp
  show wpAny _ _ (if ((0 : Int) == 0 && (1 : Int) == 1 && b == items.size) = true then _ else _) _ _ s
  rw [if_neg hno, pick_upto items b]
  first
    | exact wpAny_bind (m := Builtin.Tuple.tupleExact _) (wpAny_newObj_type (wpAny_pure ⟨_, rfl, wpAny_pure h⟩) hok)
    | exact wpAny_bind (m := Builtin.Tuple.tupleExact _) (wpAny_newObj_type (wpAny_bind (wpAny_pure (wpAny_pure ⟨_, rfl, wpAny_pure h⟩))) hok)
    | exact wpAny_bind (wpAny_bind (m := Builtin.Tuple.tupleExact _) (wpAny_newObj_type (wpAny_pure (wpAny_pure ⟨_, rfl, wpAny_pure h⟩)) hok))
    | exact wpAny_bind (wpAny_bind (m := Builtin.Tuple.tupleExact _) (wpAny_newObj_type (wpAny_pure ⟨_, rfl, wpAny_pure h⟩) hok))
theorem item_tupK {K : Frag} {value slice : Expr} {a : Addr} {l : List Value} {ns : List Int} {dd : Option Addr} {n : Nat} {sl : Array (Option Value)} {k : Int} {u : Tok} {Q : Value → Shared → Prop}
    (F : Fr h₀ L s.heap m) (X₀ : K.In h₀) (hl : K.lookup a = some ⟨.type "tuple", dd, .seq l.toArray n, sl⟩) (hi : IntsAre l ns) (h0 : 0 ≤ k) (h1 : k < (ns.length : Int)) (hfit : k < 2 ^ 63) (h : ∀ t, Q (.int (ns.getD k.toNat 0) t) s)
    (hs : subscripted slice false (.ref a) (.int k u) = operate [.ref a, .int k u] (getItem (.ref a) (.int k u))) (hg : ∀ r, letTemporaryGo value (.ref a) r = pure ()) :
    wpAny (model prog w) A (subscriptTail value slice (.ref a) (.int k u)) Q E s :=
  item_tuple_ints (tupK (X₀.keeps F.keep) hl) hi h0 h1 hfit h hs hg
/-- a top's tuple cut at the end -/
theorem slice_tupK {K : Frag} {value slice : Expr} {t : Addr} {l : List Value} {dd : Option Addr} {n : Nat} {sl : Array (Option Value)} {k : Int} {u : Tok} {Q : Value → Shared → Prop}
    (F : Fr h₀ L s.heap m) (N : News h₀ L s.heap news) (X₀ : K.In h₀) (hl : K.lookup t = some ⟨.type "tuple", dd, .seq l.toArray n, sl⟩) (hk : 0 ≤ k) (hb : k < (l.length : Int)) (hsz : l.length ≤ sizeLine)
    (h : ∀ D h', Fr h₀ L h' m → News h₀ L h' ((D, ({ cls := .type "tuple", data := .seq (l.take k.toNat).toArray } : Obj)) :: news) → (∀ p ∈ news, p.1 < D) → Q (.ref D) { s with heap := h' })
    (hs : subscripted slice false (.ref t) (.ref s.heap.objs.size) = operate [.ref s.heap.objs.size, .ref t] (getItem (.ref t) (.ref s.heap.objs.size))) (hg : ∀ r, letTemporaryGo value (.ref t) r = pure ()) :
    wpAny (model prog w) A (subscriptTail value slice (.ref t) (.ref s.heap.objs.size)) Q E { s with heap := s.heap.push { cls := .type "slice", data := .fields #[.none, .int k u, .none] } } := by
  obtain ⟨b, rfl⟩ := Int.eq_ofNat_of_zero_le hk
  simp only [Int.toNat_natCast] at h
  have ht := tupK (X₀.keeps F.keep) hl
  have ht' : IsTup (s.heap.push { cls := .type "slice", data := .fields #[.none, .int b u, .none] }) t l.toArray := ht.keeps fun _ _ e => Heap.get?_push_of_some _ e
  refine subscriptTail_ops (s := { s with heap := s.heap.push { cls := .type "slice", data := .fields #[.none, .int b u, .none] } }) ht'.typeIs slot_tuple_getitem.lookup
    (getItem_tuple_upto ht' (Heap.IsSliceOf.new ..) (by simp only [List.size_toArray]; omega) ?_ (by simpa using hsz)) hs hg
  have N1 := News.push (F.push { cls := .type "slice", data := .fields #[.none, .int b u, .none] }) (N.grown fun _ _ e => Heap.get?_push_of_some _ e) { cls := .type "tuple", data := .seq (l.toArray.toList.take b).toArray }
  rw [Heap.size_push] at N1
  show Q (.ref (s.heap.push _).objs.size) _
  rw [Heap.size_push]
  exact h _ _ ((F.push _).push _) N1 (fun p hp => Nat.lt_succ_of_lt (Heap.lt_size (N p hp).1))
end

section
variable {prog : Program} {w : World} {A : Around} {E : Value → Shared → Prop} {s : Shared} {env : Env} {h₀ : Heap} {x : Str} {body : List Stmt} {Q : Flow → Shared → Prop}
def JTurn (h₀ : Heap) (L : Addr) (m₀ : Str → Option Value) (x y : Str) (v : Int) (need : List (Addr × Obj)) (s : Shared) (fl : Flow) (s' : Shared) : Prop :=
  fl = .next ∧ ∃ h' tk' m' t, s' = { s with heap := h', toks := tk' } ∧ Fr h₀ L h' m' ∧ News h₀ L h' need ∧ m' y = some (.int v t) ∧ ∀ z, z ≠ x → z ≠ y → m' z = m₀ z
theorem iter_tup_acc {l : Addr} {vs : List Value} {ns : List Int} {m₀ : Str → Option Value} {news : List (Addr × Obj)} {n₀ : Nat} {y : Str} {t₀ : Tok} (g : Nat → Int)
    (hh : A.handled = none) (F : Fr h₀ env.locals s.heap m₀) (N : News h₀ env.locals s.heap ((l, ({ cls := .type "tuple", data := .seq vs.toArray n₀ } : Obj)) :: news)) (hlt : ∀ p ∈ news, p.1 < l) (hi : IntsAre vs ns)
    (hy : m₀ y = some (.int (g 0) t₀))
    (turn : ∀ i n t ta h tk own, ns[i]? = some n → Fr h₀ env.locals h (fun z => if z = x then some (.int n t) else if z = y then some (.int (g i) ta) else m₀ z) → News h₀ env.locals h (news ++ own) →
      wpAny (model prog w) A (execs body env) (JTurn h₀ env.locals m₀ x y (g (i + 1)) (news ++ own) { s with heap := h, toks := tk }) E { s with heap := h, toks := tk })
    (done : ∀ (u : Str → Option Value) t h tk, Fr h₀ env.locals h (fun z => if z = x then u z else if z = y then some (.int (g ns.length) t) else m₀ z) → News h₀ env.locals h news → Q .next { s with heap := h, toks := tk }) :
    wpAny (model prog w) A (pyIter (.ref l)) (fun it s₂ => LoopAtV prog w A h₀ env x body Q E it s₂) E s := by
  have hax := N _ (List.mem_cons_self ..)
  have hl : s.heap.IsTuple l vs.toArray := ⟨_, hax.1, rfl, n₀, rfl⟩
  have hls : l < s.heap.objs.size := Heap.lt_size hax.1
  have hne : l ≠ s.heap.objs.size := Nat.ne_of_lt hls
  have N0 : News h₀ env.locals s.heap news := fun p hp => N p (.tail _ hp)
  have hlen : vs.toArray.size = ns.length := by simp [hi.length]
  refine wpAny_pyIter_tuple hl ?_
  have W := Walks.tuple (prog := prog) (w := w) hh s.heap.objs.size l hne vs.toArray
  rw [hlen] at W
  have em : ∀ (m₁ : Str → Option Value) (v : Int) (t : Tok) (f : Str → Option Value), m₁ y = some (.int v t) → (∀ z, z ≠ x → z ≠ y → m₁ z = m₀ z) → (fun z => if z = x then f z else m₁ z) = fun z => if z = x then f z else if z = y then some (.int v t) else m₀ z := by
    intro m₁ v t f h1 h2
    funext z
    by_cases hx : z = x
    · rw [if_pos hx, if_pos hx]
    · rw [if_neg hx, if_neg hx]
      by_cases hz : z = y
      · rw [if_pos hz, hz, h1]
      · rw [if_neg hz]; exact h2 z hx hz
  refine loop_invN (fun i m nx => nx = news ∧ (∃ t, m y = some (.int (g i) t)) ∧ ∀ z, z ≠ x → z ≠ y → m z = m₀ z) (W.bound) ?_ ?_ ?_ ?_ ⟨⟨_, Heap.get?_push_size _ rfl, rfl, rfl⟩, hl.at fun o e => Heap.get?_push_of_some _ e⟩ (F.push _) (fun p hp => ⟨Heap.get?_push_of_some _ (N0 p hp).1, (N0 p hp).2⟩) ⟨rfl, ⟨t₀, hy⟩, fun _ _ _ => rfl⟩ ?_ ?_
  · intro hm
    rcases List.mem_cons.mp hm with e | hm
    · exact absurd F.ns.lt (e ▸ Nat.lt_irrefl _)
    · exact hax.2.1 (List.mem_singleton.mp hm).symm
  · intro b hb
    rw [List.mem_singleton.mp hb]
    exact next_is_new F
  · intro p hp hI
    exact absurd (Heap.lt_size (N0 p hp).1) ((List.mem_singleton.mp hI) ▸ Nat.lt_irrefl _)
  · intro p hp hI
    rcases List.mem_cons.mp hI with e | hI
    · exact absurd (Heap.lt_size (N0 p hp).1) (e ▸ Nat.lt_irrefl _)
    · exact absurd (hlt p hp) ((List.mem_singleton.mp hI) ▸ Nat.lt_irrefl _)
  · rintro i v m₁ nx h tk own hin hP hadr hoff ⟨rfl, ⟨ta, ha⟩, hm⟩ F₁ N₁
    have hlt' : i < ns.length := hin
    obtain ⟨t, hx⟩ := hi.get i ns[i] (by simp [hlt'])
    have hv : v = .int ns[i] t := by
      have hP' : vs[i]? = some v := by simpa using hP.2
      rw [hx] at hP'; exact (Option.some.inj hP').symm
    subst hv
    rw [em m₁ (g i) ta (fun _ => some (.int ns[i] t)) ha hm] at F₁
    refine wpAny_mono (turn i ns[i] t ta h tk own (by simp [hlt']) F₁ N₁) (fun f s₂ p => ?_) fun _ _ e => e
    obtain ⟨e, h', tk', m', t', e', F', N', h1, h2⟩ := p
    subst e; subst e'
    exact InvEndN.intro F' N' ⟨rfl, ⟨t', h1⟩, h2⟩ rfl (fun p hp => List.mem_append.mpr (.inl hp)) (fun p hp => List.mem_append.mpr (.inr hp))
  · rintro m₁ nx h tk ⟨rfl, ⟨ta, ha⟩, hm⟩ F₁ N₁
    refine done m₁ ta h tk ?_ N₁
    have := em m₁ (g ns.length) ta m₁ ha hm
    rw [← this]
    have e2 : (fun z => if z = x then m₁ z else m₁ z) = m₁ := by funext z; by_cases hz : z = x <;> simp [hz]
    rw [e2]
    exact F₁
theorem sum_take_succ {ns : List Int} {i : Nat} {n : Int} (h : ns[i]? = some n) : (ns.take (i + 1)).sum = (ns.take i).sum + n := by
  rw [List.take_add_one, h]
  simp
theorem iter_tup_sum {l : Addr} {vs : List Value} {ns : List Int} {m₀ : Str → Option Value} {news : List (Addr × Obj)} {n₀ : Nat} {y : Str} {t₀ : Tok} {a₀ : Int}
    (hh : A.handled = none) (F : Fr h₀ env.locals s.heap m₀) (N : News h₀ env.locals s.heap ((l, ({ cls := .type "tuple", data := .seq vs.toArray n₀ } : Obj)) :: news)) (hlt : ∀ p ∈ news, p.1 < l) (hi : IntsAre vs ns)
    (hy : m₀ y = some (.int a₀ t₀))
    (turn : ∀ n t a ta h tk own, Fr h₀ env.locals h (fun z => if z = x then some (.int n t) else if z = y then some (.int a ta) else m₀ z) → News h₀ env.locals h (news ++ own) →
      wpAny (model prog w) A (execs body env) (JTurn h₀ env.locals m₀ x y (a + n) (news ++ own) { s with heap := h, toks := tk }) E { s with heap := h, toks := tk })
    (done : ∀ (u : Str → Option Value) t h tk, Fr h₀ env.locals h (fun z => if z = x then u z else if z = y then some (.int (a₀ + ns.sum) t) else m₀ z) → News h₀ env.locals h news → Q .next { s with heap := h, toks := tk }) :
    wpAny (model prog w) A (pyIter (.ref l)) (fun it s₂ => LoopAtV prog w A h₀ env x body Q E it s₂) E s := by
  refine iter_tup_acc (fun i => a₀ + (ns.take i).sum) hh F N hlt hi (by simpa using hy) ?_ ?_
  · intro i n t ta h tk own hn F₁ N₁
    have e : a₀ + (ns.take (i + 1)).sum = a₀ + (ns.take i).sum + n := by rw [sum_take_succ hn]; omega
    rw [e]
    exact turn n t _ ta h tk own F₁ N₁
  · intro u t h tk F₁ N₁
    rw [List.take_length] at F₁
    exact done u t h tk F₁ N₁
end
end Mine

end

section
open PySem PySem.W PyProof.Rows PySem.Spec PySem.Calls
namespace Mine
/-- markers: what a name is to hold -/
structure NamedB (x : String) (p : Bool) : Prop where
  mk ::
structure NamedL (x : String) (ns : List Int) : Prop where
  mk ::
/-- a marker: the join of this name's statement is under way -/
structure Joined (x : String) : Prop where
  mk ::
section
variable {M : Model} {A : Around} {E : Value → Shared → Prop} {s : Shared} {h₀ h' : Heap} {L D : Addr} {m m' : Str → Option Value} {news : List (Addr × Obj)} {st : Stmt} {env : Env} {Q : Flow → Shared → Prop} {x y : String} {v v' a b c : Int} {t u w : Tok} {tk' : Nat} {p q : Bool}
/-- one name holds some int -/
def JAny (h₀ : Heap) (L : Addr) (m : Str → Option Value) (x : String) (news : List (Addr × Obj)) (s : Shared) (fl : Flow) (s' : Shared) : Prop :=
  fl = .next ∧ ∃ h' tk' v t, s' = { s with heap := h', toks := tk' } ∧ Fr h₀ L h' (fun z => if z = Str.ofString x then some (.int v t) else m z) ∧ News h₀ L h' news
theorem joinAny (x : String) (_F : Fr h₀ L s.heap m) (_N : News h₀ L s.heap news)
    (h1 : Joined x → wpAny M A (exec st env) (JAny h₀ L m x news s) E s)
    (h2 : ∀ h' tk' v t, Fr h₀ L h' (fun z => if z = Str.ofString x then some (.int v t) else m z) → News h₀ L h' news → Q .next { s with heap := h', toks := tk' }) : wpAny M A (exec st env) Q E s := by
  refine wpAny_mono (h1 ⟨⟩) (fun fl s' hq => ?_) fun _ _ h => h
  obtain ⟨e, h', tk', v, t, e', F', N'⟩ := hq
  subst e; subst e'
  exact h2 h' tk' v t F' N'
theorem upd_self {f : Value} (hm : m (Str.ofString x) = some f) : (fun z => if z = Str.ofString x then some f else m z) = m := by
  funext z
  by_cases hz : z = Str.ofString x
  · rw [if_pos hz, hz, hm]
  · rw [if_neg hz]
theorem jany_stored (F : Fr h₀ L h' (fun z => if z = Str.ofString x then some (.int v t) else m z)) (N : News h₀ L h' news) : JAny h₀ L m x news s .next { s with heap := h', toks := tk' } := ⟨rfl, h', tk', v, t, rfl, F, N⟩
theorem jany_kept (hm : m (Str.ofString x) = some (.int v t)) (F : Fr h₀ L h' m) (N : News h₀ L h' news) : JAny h₀ L m x news s .next { s with heap := h', toks := tk' } :=
  ⟨rfl, h', tk', v, t, rfl, by rw [upd_self hm]; exact F, N⟩
/-- two names hold some ints -/
def JII (h₀ : Heap) (L : Addr) (m : Str → Option Value) (x y : String) (news : List (Addr × Obj)) (s : Shared) (fl : Flow) (s' : Shared) : Prop :=
  fl = .next ∧ ∃ h' tk' a t v u, s' = { s with heap := h', toks := tk' } ∧ Fr h₀ L h' (fun z => if z = Str.ofString x then some (.int a t) else if z = Str.ofString y then some (.int v u) else m z) ∧ News h₀ L h' news
theorem joinII (x y : String) (_F : Fr h₀ L s.heap m) (_N : News h₀ L s.heap news)
    (h1 : Joined x → wpAny M A (exec st env) (JII h₀ L m x y news s) E s)
    (h2 : ∀ h' tk' a t v u, Fr h₀ L h' (fun z => if z = Str.ofString x then some (.int a t) else if z = Str.ofString y then some (.int v u) else m z) → News h₀ L h' news → Q .next { s with heap := h', toks := tk' }) : wpAny M A (exec st env) Q E s := by
  refine wpAny_mono (h1 ⟨⟩) (fun fl s' hq => ?_) fun _ _ h => h
  obtain ⟨e, h', tk', a, t, v, u, e', F', N'⟩ := hq
  subst e; subst e'
  exact h2 h' tk' a t v u F' N'
theorem jii_end (F : Fr h₀ L h' m') (e : m' = fun z => if z = Str.ofString x then some (.int a t) else if z = Str.ofString y then some (.int v u) else m z) (N : News h₀ L h' news) : JII h₀ L m x y news s .next { s with heap := h', toks := tk' } := ⟨rfl, h', tk', a, t, v, u, rfl, e ▸ F, N⟩
/-- one name holds some bool, another some int -/
def JBI (h₀ : Heap) (L : Addr) (m : Str → Option Value) (x y : String) (news : List (Addr × Obj)) (s : Shared) (fl : Flow) (s' : Shared) : Prop :=
  fl = .next ∧ ∃ h' tk' p v t, s' = { s with heap := h', toks := tk' } ∧ Fr h₀ L h' (fun z => if z = Str.ofString x then some (.bool p) else if z = Str.ofString y then some (.int v t) else m z) ∧ News h₀ L h' news
theorem joinBI (x y : String) (_F : Fr h₀ L s.heap m) (_N : News h₀ L s.heap news)
    (h1 : Joined x → wpAny M A (exec st env) (JBI h₀ L m x y news s) E s)
    (h2 : ∀ h' tk' p v t, Fr h₀ L h' (fun z => if z = Str.ofString x then some (.bool p) else if z = Str.ofString y then some (.int v t) else m z) → News h₀ L h' news → Q .next { s with heap := h', toks := tk' }) : wpAny M A (exec st env) Q E s := by
  refine wpAny_mono (h1 ⟨⟩) (fun fl s' hq => ?_) fun _ _ h => h
  obtain ⟨e, h', tk', p, v, t, e', F', N'⟩ := hq
  subst e; subst e'
  exact h2 h' tk' p v t F' N'
theorem jbi_end (F : Fr h₀ L h' m') (e : m' = fun z => if z = Str.ofString x then some (.bool p) else if z = Str.ofString y then some (.int v t) else m z) (N : News h₀ L h' news) : JBI h₀ L m x y news s .next { s with heap := h', toks := tk' } := ⟨rfl, h', tk', p, v, t, rfl, e ▸ F, N⟩
/-- a name holds this bool -/
def JBool (h₀ : Heap) (L : Addr) (m : Str → Option Value) (x : String) (p : Bool) (news : List (Addr × Obj)) (s : Shared) (fl : Flow) (s' : Shared) : Prop :=
  fl = .next ∧ ∃ h' tk', s' = { s with heap := h', toks := tk' } ∧ Fr h₀ L h' (fun z => if z = Str.ofString x then some (.bool p) else m z) ∧ News h₀ L h' news
theorem joinBool (x : String) {p : Bool} (_hn : NamedB x p) (_F : Fr h₀ L s.heap m) (_N : News h₀ L s.heap news)
    (h1 : Joined x → wpAny M A (exec st env) (JBool h₀ L m x p news s) E s)
    (h2 : ∀ h' tk', Fr h₀ L h' (fun z => if z = Str.ofString x then some (.bool p) else m z) → News h₀ L h' news → Q .next { s with heap := h', toks := tk' }) : wpAny M A (exec st env) Q E s := by
  refine wpAny_mono (h1 ⟨⟩) (fun fl s' hq => ?_) fun _ _ h => h
  obtain ⟨e, h', tk', e', F', N'⟩ := hq
  subst e; subst e'
  exact h2 h' tk' F' N'
theorem jbool_end (e : q = p) (F : Fr h₀ L h' (fun z => if z = Str.ofString x then some (.bool q) else m z)) (N : News h₀ L h' news) : JBool h₀ L m x p news s .next { s with heap := h', toks := tk' } := by
  subst e
  exact ⟨rfl, h', tk', rfl, F, N⟩
/-- a name holds a new list of three ints -/
def JL3 (h₀ : Heap) (L : Addr) (m : Str → Option Value) (x : String) (news : List (Addr × Obj)) (s : Shared) (fl : Flow) (s' : Shared) : Prop :=
  fl = .next ∧ ∃ h' tk' D a b c t u w, s' = { s with heap := h', toks := tk' } ∧ Fr h₀ L h' (fun z => if z = Str.ofString x then some (.ref D) else m z) ∧ News h₀ L h' ((D, PySem.W.listOf #[.int a t, .int b u, .int c w] 0) :: news) ∧ (∀ p ∈ news, p.1 < D)
theorem joinL3 (x : String) (_F : Fr h₀ L s.heap m) (_N : News h₀ L s.heap news)
    (h1 : Joined x → wpAny M A (exec st env) (JL3 h₀ L m x news s) E s)
    (h2 : ∀ h' tk' D a b c t u w, Fr h₀ L h' (fun z => if z = Str.ofString x then some (.ref D) else m z) → News h₀ L h' ((D, PySem.W.listOf #[.int a t, .int b u, .int c w] 0) :: news) → (∀ p ∈ news, p.1 < D) → Q .next { s with heap := h', toks := tk' }) : wpAny M A (exec st env) Q E s := by
  refine wpAny_mono (h1 ⟨⟩) (fun fl s' hq => ?_) fun _ _ h => h
  obtain ⟨e, h', tk', D, a, b, c, t, u, w, e', F', N', l⟩ := hq
  subst e; subst e'
  exact h2 h' tk' D a b c t u w F' N' l
theorem jl3_end (F : Fr h₀ L h' (fun z => if z = Str.ofString x then some (.ref D) else m z)) (N : News h₀ L h' ((D, PySem.W.listOf #[.int a t, .int b u, .int c w] 0) :: news)) (l : ∀ p ∈ news, p.1 < D) : JL3 h₀ L m x news s .next { s with heap := h', toks := tk' } := ⟨rfl, h', tk', D, a, b, c, t, u, w, rfl, F, N, l⟩
/-- a name holds a new list of ints -/
def JLs (h₀ : Heap) (L : Addr) (m : Str → Option Value) (x : String) (ns : List Int) (news : List (Addr × Obj)) (s : Shared) (fl : Flow) (s' : Shared) : Prop :=
  fl = .next ∧ ∃ h' tk' D vs, s' = { s with heap := h', toks := tk' } ∧ Fr h₀ L h' (fun z => if z = Str.ofString x then some (.ref D) else m z) ∧ News h₀ L h' ((D, PySem.W.listOf (List.toArray vs) 0) :: news) ∧ IntsAre vs ns ∧ (∀ p ∈ news, p.1 < D)
theorem joinLs (x : String) {ns : List Int} (_hn : NamedL x ns) (_F : Fr h₀ L s.heap m) (_N : News h₀ L s.heap news)
    (h1 : Joined x → wpAny M A (exec st env) (JLs h₀ L m x ns news s) E s)
    (h2 : ∀ h' tk' D vs, Fr h₀ L h' (fun z => if z = Str.ofString x then some (.ref D) else m z) → News h₀ L h' ((D, PySem.W.listOf (List.toArray vs) 0) :: news) → IntsAre vs ns → (∀ p ∈ news, p.1 < D) → Q .next { s with heap := h', toks := tk' }) : wpAny M A (exec st env) Q E s := by
  refine wpAny_mono (h1 ⟨⟩) (fun fl s' hq => ?_) fun _ _ h => h
  obtain ⟨e, h', tk', D, vs, e', F', N', hi, l⟩ := hq
  subst e; subst e'
  exact h2 h' tk' D vs F' N' hi l
theorem jls_end {vs : List Value} {ns ms : List Int} (F : Fr h₀ L h' (fun z => if z = Str.ofString x then some (.ref D) else m z)) (N : News h₀ L h' ((D, PySem.W.listOf (List.toArray vs) 0) :: news)) (hi : IntsAre vs ms) (e : ms = ns) (l : ∀ p ∈ news, p.1 < D) : JLs h₀ L m x ns news s .next { s with heap := h', toks := tk' } := ⟨rfl, h', tk', D, vs, rfl, F, N, e ▸ hi, l⟩
end
theorem newsNil {h₀ h : Heap} {L : Addr} {l : List (Addr × Obj)} (_N : News h₀ L h l) : News h₀ L h [] := fun _ h => nomatch h
section
variable {M : Model} {A : Around} {E : Value → Shared → Prop} {s : Shared} {K : Frag} {env : Env} {pos p apos : Pos} {first : List Value} {Q : Value → Shared → Prop} {h₀ : Heap} {L : Addr} {news : List (Addr × Obj)} {e o : Expr} {name : Str} {q g : Addr} {self : Value}
theorem methodCall_star (h : wpAny M A (eval o env) (fun ov s₁ => wpAny M A (getAttr ov name true) (fun f s₂ => wpAny M A (callWith pos f [] (backTo pos (starEach [.Starred e p] env)) []) Q E s₂) E s₁) E s)
    (he : eval (.Call (.Attribute o name apos) [.Starred e p] [] pos) env = (do
      let ov ← eval o env
      standAt apos.atName
      let (f, first) ← holding [ov] (do pure (← getAttr ov name true, []))
      callWith pos f first (backTo pos (starEach [.Starred e p] env)) []) := by rfl) :
    wpAny M A (eval (.Call (.Attribute o name apos) [.Starred e p] [] pos) env) Q E s := by
  rw [he]
  refine wpAny_bind (wpAny_mono h (fun ov s₁ h₁ => wpAny_bind (wpAny_standAt (wpAny_bind (wpAny_holding (wpAny_bind (wpAny_mono h₁ (fun fx s₂ h₂ => wpAny_pure ?_) fun _ _ x => x)))))) fun _ _ x => x)
  exact h₂
theorem callWith_MS (_X : K.In h₀) (_N : News h₀ L s.heap news) (_q : (q, methodObj (.ref g) self) ∈ news) (hf : fnIn K g = true)
    (h : wpAny M A (eval e env) (fun v s₁ => StarOf M A E v (fun vs s₂ => MethP K q g self s₂.heap ∧ wpAny M A (call (.ref q) (first ++ vs)) Q E s₂) s₁) E s)
    (he : starEach [.Starred e p] env = [(true, eval e env)] := by rfl) :
    wpAny M A (callWith pos (.ref q) first (backTo pos (starEach [.Starred e p] env)) []) Q E s := by
  rw [he]
  exact ks_call rfl (keeps_M hf) (ks_lone h)
end
end Mine

end

section
open PySem PySem.W PyProof.Rows PySem.Spec PySem.Calls
namespace Mine
set_option maxRecDepth 100000 in
set_option maxHeartbeats 8000000 in
theorem c_legal (w : World) (news : List (Addr × Obj)) (y m d : Int) (t u v : Tok) (h0 : 0 < d) (h1 : d ≤ mlen (isLeap y) m) : Cl w 44 4 40 news [.int y t, .int m u, .int d v] (RetV news (fun _ => .bool true)) := by
  have n1 : Named "daysinmonth" (mlen (isLeap y) m) := ⟨⟩
  unfold Cl RetV
  w_top off
  k_with_none
  k_with "eval Call Name cons nil" => (k_here; (fail_if_success (with_reducible show wpAny _ _ (eval (Expr.Call (Expr.Name (Str.ofString "range") _) _ _ _) _) _ _ _)); refine Call_ ?_)
  k_with "ite" => (k_here; k_openite; first | (refine ite_pos (by with_reducible assumption) ?_; walk_say "PRUNED mine") | (refine ite_neg (by with_reducible assumption) ?_; walk_say "PRUNED mine") | (refine ite_pos (by (law_purse 40000 => (law_clear; (try law_fm); (try simp only [beq_iff_eq, bne_iff_ne, ne_eq, decide_eq_true_eq, decide_eq_false_iff_not, Bool.and_eq_true, Bool.or_eq_true, Bool.not_eq_true', Bool.not_eq_false', Bool.not_eq_true, beq_eq_false_iff_ne] at *); first | assumption | omega))) ?_; walk_say "PRUNED mine") | (refine ite_neg (by (law_purse 40000 => (law_clear; (try law_fm); (try simp only [beq_iff_eq, bne_iff_ne, ne_eq, decide_eq_true_eq, decide_eq_false_iff_not, Bool.and_eq_true, Bool.or_eq_true, Bool.not_eq_true', Bool.not_eq_false', Bool.not_eq_true, beq_eq_false_iff_ne] at *); first | assumption | omega))) ?_; walk_say "PRUNED mine"))
  k_with "compareOp In int ref" => (k_here; (with_reducible show wpAny _ _ (compareOp CmpOp.In (Value.int _ _) (Value.ref _)) _ _ _); k_dflt (refine' Mine.in_K _ ?Zq_F ?Zq_X ?Zq_l ?Zq_i rfl ?_; (case Zq_F => k_asm); (case Zq_X => k_asm); (case Zq_l => k_is); (case Zq_i => l_intsW); k_whole))
  k_with "JInt" => first | (refine Mine.jint_stored ?Zq_e (by k_asm) (by first | k_asm | (refine' cb_drop ?Zq_cbN ?Zq_cbS; (case Zq_cbN => assumption); (case Zq_cbS => kcj_all))); (case Zq_e => first | rfl | assumption | (walk_at "mine_eq"))) | (refine Mine.jint_kept ?Zq_e rfl (by k_asm) (by first | k_asm | (refine' cb_drop ?Zq_cbN ?Zq_cbS; (case Zq_cbN => assumption); (case Zq_cbS => kcj_all))); (case Zq_e => first | rfl | assumption | (walk_at "mine_eq")))
  k_with "call ref" => (k_here; (with_reducible show wpAny _ _ (call (Value.ref 22) _) _ _ _); k_dflt (refine' Mine.useCl (Mine.c_isleap _ _ _ _ ) ?Zq_k1 ?Zq_k2 ?Zq_k3 ?Zq_k4 ?Zq_k5 ?Zq_kK ?Zq_kd ?Zq_ku ?_; (case Zq_k1 => k_asm); (case Zq_k2 => k_asm); (case Zq_k3 => k_asm); (case Zq_k4 => k_asm); (case Zq_k5 => k_asm); (case Zq_kK => first | exact rfl | assumption); (case Zq_kd => ktr_room); (case Zq_ku => ktr_units);  k_whole; dsimp only [Mine.RetV]; intro t9 h9 tk9 F9 N9); (try k_sweep); (try k_fold))
  k_with "exec If Compare cons cons" => (k_here; (with_reducible show wpAny _ _ (exec (Stmt.If (Expr.Compare (Expr.Name (Str.ofString "month") _) [CmpOp.Eq] _ _) _ _ _) _) _ _ _); (fail_if_success (have hJ9 : Mine.Joined "daysinmonth" := by assumption)); k_dflt (refine' Mine.joinInt (x := "daysinmonth") ?Zq_hn ?Zq_F ?Zq_N ?_ ?_; (case Zq_hn => assumption); (case Zq_F => k_asm); (case Zq_N => k_asm); k_whole); rotate_left; (intro h9 tk9 t9 F9 N9; (try k_sweep)); rotate_right; (have hJ9 := Mine.Joined.mk (x := "daysinmonth"); try k_fold))
  k_with "mine_eq" => first | exact Mine.len_a (by with_reducible assumption) (by with_reducible assumption) | exact Mine.len_b (by with_reducible assumption) (by with_reducible assumption) | exact Mine.len_c (by with_reducible assumption) (by with_reducible assumption) | exact Mine.len_d (by with_reducible assumption) (by with_reducible assumption)
  k_fill
  intro loose mean mg mb dp un gd cn cs a ccd cl outer A₀ base h₀ L mm s Q E B F X N T hk hdp hu hret
  refine wpAny_call ?_
  k_dflt cell_enter
  k_steps
  all_goals exact hret 0 _ _ (by k_asm) (by k_asm)
end Mine

end

section
open PySem PySem.W PyProof.Rows PySem.Spec PySem.Calls
namespace Mine

def ladj (lp : Bool) (m : Int) : Int := if m ≤ 2 then 0 else if lp = true then -1 else -2
theorem ladj_0 {lp : Bool} {m : Int} (h : m ≤ 2) : 0 = ladj lp m := by unfold ladj; rw [if_pos h]
theorem ladj_1 {lp : Bool} {m : Int} (h : ¬ m ≤ 2) (h2 : lp = true) : -1 = ladj lp m := by unfold ladj; rw [if_neg h, if_pos h2]
theorem ladj_2 {lp : Bool} {m : Int} (h : ¬ m ≤ 2) (h2 : lp = false) : -2 = ladj lp m := by unfold ladj; rw [if_neg h, if_neg (by rw [h2]; decide)]
set_option maxRecDepth 100000 in
set_option maxHeartbeats 8000000 in
theorem c_to_jd (w : World) (news : List (Addr × Obj)) (y m d : Int) (t u v : Tok) (h0 : 0 < d) (h1 : d ≤ mlen (isLeap y) m) : Cl w 58 6 60 news [.int y t, .int m u, .int d v] (RetV news (fun t => .int (jan1 y + cum (isLeap y) m + d - 1) t)) := by
  have n1 : Named "leap_adj" (ladj (isLeap y) m) := ⟨⟩
  unfold Cl RetV
  w_top off
  k_with_none
  k_with "eval Call Name cons nil" => (k_here; (fail_if_success (with_reducible show wpAny _ _ (eval (Expr.Call (Expr.Name (Str.ofString "range") _) _ _ _) _) _ _ _)); refine Call_ ?_)
  k_with "compareOp In int ref" => (k_here; (with_reducible show wpAny _ _ (compareOp CmpOp.In (Value.int _ _) (Value.ref _)) _ _ _); k_dflt (first | (refine' Mine.in_K true ?Zq_F ?Zq_X ?Zq_l ?Zq_i ?Zq_b ?_; (case Zq_F => k_asm); (case Zq_X => k_asm); (case Zq_l => k_is); (case Zq_i => l_intsW); (case Zq_b => first | decide | (simp; omega)); k_whole) | (refine' Mine.in_K false ?Zq_F ?Zq_X ?Zq_l ?Zq_i ?Zq_b ?_; (case Zq_F => k_asm); (case Zq_X => k_asm); (case Zq_l => k_is); (case Zq_i => l_intsW); (case Zq_b => first | decide | (simp; omega)); k_whole)))
  k_with "ite" => (k_here; k_openite; first | (refine ite_pos (by with_reducible assumption) ?_; walk_say "PRUNED mine") | (refine ite_neg (by with_reducible assumption) ?_; walk_say "PRUNED mine") | (refine ite_pos (by (law_purse 40000 => (law_clear; (try law_fm); (try simp only [beq_iff_eq, bne_iff_ne, ne_eq, decide_eq_true_eq, decide_eq_false_iff_not, Bool.and_eq_true, Bool.or_eq_true, Bool.not_eq_true', Bool.not_eq_false', Bool.not_eq_true, beq_eq_false_iff_ne] at *); first | assumption | omega))) ?_; walk_say "PRUNED mine") | (refine ite_neg (by (law_purse 40000 => (law_clear; (try law_fm); (try simp only [beq_iff_eq, bne_iff_ne, ne_eq, decide_eq_true_eq, decide_eq_false_iff_not, Bool.and_eq_true, Bool.or_eq_true, Bool.not_eq_true', Bool.not_eq_false', Bool.not_eq_true, beq_eq_false_iff_ne] at *); first | assumption | omega))) ?_; walk_say "PRUNED mine"))
  k_with "call ref" => (k_here; (with_reducible show wpAny _ _ (call (Value.ref 22) _) _ _ _); k_dflt (refine' Mine.useCl (Mine.c_isleap _ _ _ _ ) ?Zq_k1 ?Zq_k2 ?Zq_k3 ?Zq_k4 ?Zq_k5 ?Zq_kK ?Zq_kd ?Zq_ku ?_; (case Zq_k1 => k_asm); (case Zq_k2 => k_asm); (case Zq_k3 => k_asm); (case Zq_k4 => k_asm); (case Zq_k5 => k_asm); (case Zq_kK => first | exact rfl | assumption); (case Zq_kd => ktr_room); (case Zq_ku => ktr_units);  k_whole; dsimp only [Mine.RetV]; intro t9 h9 tk9 F9 N9); (try k_sweep); (try k_fold))
  k_with "call ref" => (k_here; (with_reducible show wpAny _ _ (call (Value.ref 44) _) _ _ _); k_dflt (refine' Mine.useCl (Mine.c_legal _ _ _ _ _ _ _ _ ?Zq_p0 ?Zq_p1) ?Zq_k1 ?Zq_k2 ?Zq_k3 ?Zq_k4 ?Zq_k5 ?Zq_kK ?Zq_kd ?Zq_ku ?_; (case Zq_k1 => k_asm); (case Zq_k2 => k_asm); (case Zq_k3 => k_asm); (case Zq_k4 => k_asm); (case Zq_k5 => k_asm); (case Zq_kK => first | exact rfl | assumption); (case Zq_kd => ktr_room); (case Zq_ku => ktr_units); (case Zq_p0 => (first | assumption | omega | decide | (walk_at "mine_fact"))); (case Zq_p1 => (first | assumption | omega | decide | (walk_at "mine_fact"))); k_whole; dsimp only [Mine.RetV]; intro t9 h9 tk9 F9 N9); (try k_sweep); (try k_fold))
  k_with "JInt" => first | (refine Mine.jint_stored ?Zq_e (by k_asm) (by first | k_asm | (refine' cb_drop ?Zq_cbN ?Zq_cbS; (case Zq_cbN => assumption); (case Zq_cbS => kcj_all))); (case Zq_e => first | rfl | assumption | (walk_at "mine_eq"))) | (refine Mine.jint_kept ?Zq_e rfl (by k_asm) (by first | k_asm | (refine' cb_drop ?Zq_cbN ?Zq_cbS; (case Zq_cbN => assumption); (case Zq_cbS => kcj_all))); (case Zq_e => first | rfl | assumption | (walk_at "mine_eq")))
  k_with "exec If Compare cons cons" => (k_here; (with_reducible show wpAny _ _ (exec (Stmt.If (Expr.Compare (Expr.Name (Str.ofString "month") _) [CmpOp.LtE] _ _) _ _ _) _) _ _ _); (fail_if_success (with_reducible show wpAny _ _ _ (Mine.JInt _ _ _ _ _ _ _) _ _)); refine' Mine.joinInt (x := "leap_adj") ?Zq_hn ?Zq_F ?Zq_N ?_ ?_; (case Zq_hn => assumption); (case Zq_F => k_asm); (case Zq_N => k_asm); k_whole; rotate_left; (intro h9 tk9 t9 F9 N9; (try k_sweep)); rotate_right; (try k_fold))
  k_with "mine_eq" => first | exact Mine.ladj_0 (by with_reducible assumption) | exact Mine.ladj_1 (by with_reducible assumption) (by with_reducible assumption) | exact Mine.ladj_2 (by with_reducible assumption) (by with_reducible assumption)
  k_fill
  intro loose mean mg mb dp un gd cn cs a ccd cl outer A₀ base h₀ L mm s Q E B F X N T hk hdp hu hret
  refine wpAny_call ?_
  k_dflt cell_enter
  k_steps
  all_goals refine cb_retI hret ?_ (by k_asm) (by k_asm)
  have hc : cum (isLeap y) m = (367 * m - 362) / 12 + ladj (isLeap y) m := rfl
  rw [hc]
  simp (disch := decide) only [Int.fdiv_eq_ediv_of_nonneg, jan1]
  generalize ladj (isLeap y) m = g
  generalize (367 * m - 362) / 12 = q
  generalize (y - 1) / 4 = q1
  generalize (y - 1) / 100 = q2
  generalize (y - 1) / 400 = q3
  clear n1 hc hret h0 h1
  omega
end Mine

end

section
open PySem PySem.W PyProof.Rows PySem.Spec PySem.Calls
namespace Mine

set_option maxRecDepth 100000 in
set_option maxHeartbeats 8000000 in
theorem c_to_jd2 (w : World) (news : List (Addr × Obj)) (y m d : Int) (t u v : Tok) (h0 : 0 < d) (h1 : d ≤ mlen (isLeap y) m) (hm : 1 ≤ m) (hm' : m ≤ 12) : Cl w 51 6 60 news [.int y t, .int m u, .int d v] (RetV news (fun t => .int (jan1 y + cum (isLeap y) m + d - 1) t)) := by
  have hM := jd2_math (y := y) (m := m) hm hm'
  generalize hG : jan1 y + cum (isLeap y) m = G at *
  unfold Cl RetV
  w_top off
  k_with_none
  k_with "eval Call Name cons nil" => (k_here; (fail_if_success (with_reducible show wpAny _ _ (eval (Expr.Call (Expr.Name (Str.ofString "range") _) _ _ _) _) _ _ _)); refine Call_ ?_)
  k_with "compareOp In int ref" => (k_here; (with_reducible show wpAny _ _ (compareOp CmpOp.In (Value.int _ _) (Value.ref _)) _ _ _); k_dflt (first | (refine' Mine.in_K true ?Zq_F ?Zq_X ?Zq_l ?Zq_i ?Zq_b ?_; (case Zq_F => k_asm); (case Zq_X => k_asm); (case Zq_l => k_is); (case Zq_i => l_intsW); (case Zq_b => first | decide | (simp; omega)); k_whole) | (refine' Mine.in_K false ?Zq_F ?Zq_X ?Zq_l ?Zq_i ?Zq_b ?_; (case Zq_F => k_asm); (case Zq_X => k_asm); (case Zq_l => k_is); (case Zq_i => l_intsW); (case Zq_b => first | decide | (simp; omega)); k_whole)))
  k_with "ite" => (k_here; k_openite; first | (refine ite_pos (by with_reducible assumption) ?_; walk_say "PRUNED mine") | (refine ite_neg (by with_reducible assumption) ?_; walk_say "PRUNED mine") | (refine ite_pos (by (law_purse 40000 => (law_clear; (try law_fm); (try simp only [beq_iff_eq, bne_iff_ne, ne_eq, decide_eq_true_eq, decide_eq_false_iff_not, Bool.and_eq_true, Bool.or_eq_true, Bool.not_eq_true', Bool.not_eq_false', Bool.not_eq_true, beq_eq_false_iff_ne] at *); first | assumption | omega))) ?_; walk_say "PRUNED mine") | (refine ite_neg (by (law_purse 40000 => (law_clear; (try law_fm); (try simp only [beq_iff_eq, bne_iff_ne, ne_eq, decide_eq_true_eq, decide_eq_false_iff_not, Bool.and_eq_true, Bool.or_eq_true, Bool.not_eq_true', Bool.not_eq_false', Bool.not_eq_true, beq_eq_false_iff_ne] at *); first | assumption | omega))) ?_; walk_say "PRUNED mine"))
  k_with "call ref" => (k_here; (with_reducible show wpAny _ _ (call (Value.ref 22) _) _ _ _); k_dflt (refine' Mine.useCl (Mine.c_isleap _ _ _ _ ) ?Zq_k1 ?Zq_k2 ?Zq_k3 ?Zq_k4 ?Zq_k5 ?Zq_kK ?Zq_kd ?Zq_ku ?_; (case Zq_k1 => k_asm); (case Zq_k2 => k_asm); (case Zq_k3 => k_asm); (case Zq_k4 => k_asm); (case Zq_k5 => k_asm); (case Zq_kK => first | exact rfl | assumption); (case Zq_kd => ktr_room); (case Zq_ku => ktr_units);  k_whole; dsimp only [Mine.RetV]; intro t9 h9 tk9 F9 N9); (try k_sweep); (try k_fold))
  k_with "call ref" => (k_here; (with_reducible show wpAny _ _ (call (Value.ref 44) _) _ _ _); k_dflt (refine' Mine.useCl (Mine.c_legal _ _ _ _ _ _ _ _ ?Zq_p0 ?Zq_p1) ?Zq_k1 ?Zq_k2 ?Zq_k3 ?Zq_k4 ?Zq_k5 ?Zq_kK ?Zq_kd ?Zq_ku ?_; (case Zq_k1 => k_asm); (case Zq_k2 => k_asm); (case Zq_k3 => k_asm); (case Zq_k4 => k_asm); (case Zq_k5 => k_asm); (case Zq_kK => first | exact rfl | assumption); (case Zq_kd => ktr_room); (case Zq_ku => ktr_units); (case Zq_p0 => (first | assumption | omega | decide | (walk_at "mine_fact"))); (case Zq_p1 => (first | assumption | omega | decide | (walk_at "mine_fact"))); k_whole; dsimp only [Mine.RetV]; intro t9 h9 tk9 F9 N9); (try k_sweep); (try k_fold))
  k_with "call ref" => (k_here; (with_reducible show wpAny _ _ (call (Value.ref 58) _) _ _ _); k_dflt (refine' Mine.useCl (Mine.c_to_jd _ _ _ _ _ _ _ _ ?Zq_p0 ?Zq_p1) ?Zq_k1 ?Zq_k2 ?Zq_k3 ?Zq_k4 ?Zq_k5 ?Zq_kK ?Zq_kd ?Zq_ku ?_; (case Zq_k1 => k_asm); (case Zq_k2 => k_asm); (case Zq_k3 => k_asm); (case Zq_k4 => k_asm); (case Zq_k5 => k_asm); (case Zq_kK => first | exact rfl | assumption); (case Zq_kd => ktr_room); (case Zq_ku => ktr_units); (case Zq_p0 => (first | assumption | omega | decide | (walk_at "mine_fact"))); (case Zq_p1 => (first | assumption | omega | decide | (walk_at "mine_fact"))); k_whole; dsimp only [Mine.RetV]; intro t9 h9 tk9 F9 N9); (try k_sweep); (try k_fold))
  k_fill
  intro loose mean mg mb dp un gd cn cs a ccd cl outer A₀ base h₀ L m s Q E B F X N T hk hdp hu hret
  refine wpAny_call ?_
  k_dflt cell_enter
  k_steps
  all_goals refine cb_retI hret ?_ (by k_asm) (by k_asm)
  · rw [if_pos (by assumption)] at hM
    simp (disch := decide) only [Int.fdiv_eq_ediv_of_nonneg]
    omega
  · rw [if_neg (by assumption)] at hM
    simp (disch := decide) only [Int.fdiv_eq_ediv_of_nonneg]
    omega
end Mine

end

section
open PySem PySem.W PyProof.Rows PySem.Spec PySem.Calls
namespace Mine

theorem legal11 (lp : Bool) : (1 : Int) ≤ mlen lp 1 := by decide +revert
set_option maxRecDepth 100000 in
set_option maxHeartbeats 8000000 in
theorem c_ord (w : World) (news : List (Addr × Obj)) (y p : Int) (t u : Tok) : Cl w 171 8 80 news [.int y t, .int p u] (RetV news (fun t => .int (jan1 y + p - 1) t)) := by
  have hl := legal11 (isLeap y)
  have hc : cum (isLeap y) 1 = 0 := by cases isLeap y <;> decide
  unfold Cl RetV
  w_top off
  k_with_none
  k_with "eval Call Name cons nil" => (k_here; (fail_if_success (with_reducible show wpAny _ _ (eval (Expr.Call (Expr.Name (Str.ofString "range") _) _ _ _) _) _ _ _)); refine Call_ ?_)
  k_with "compareOp In int ref" => (k_here; (with_reducible show wpAny _ _ (compareOp CmpOp.In (Value.int _ _) (Value.ref _)) _ _ _); k_dflt (first | (refine' Mine.in_K true ?Zq_F ?Zq_X ?Zq_l ?Zq_i ?Zq_b ?_; (case Zq_F => k_asm); (case Zq_X => k_asm); (case Zq_l => k_is); (case Zq_i => l_intsW); (case Zq_b => first | decide | (simp; omega)); k_whole) | (refine' Mine.in_K false ?Zq_F ?Zq_X ?Zq_l ?Zq_i ?Zq_b ?_; (case Zq_F => k_asm); (case Zq_X => k_asm); (case Zq_l => k_is); (case Zq_i => l_intsW); (case Zq_b => first | decide | (simp; omega)); k_whole)))
  k_with "ite" => (k_here; k_openite; first | (refine ite_pos (by with_reducible assumption) ?_; walk_say "PRUNED mine") | (refine ite_neg (by with_reducible assumption) ?_; walk_say "PRUNED mine") | (refine ite_pos (by (law_purse 40000 => (law_clear; (try law_fm); (try simp only [beq_iff_eq, bne_iff_ne, ne_eq, decide_eq_true_eq, decide_eq_false_iff_not, Bool.and_eq_true, Bool.or_eq_true, Bool.not_eq_true', Bool.not_eq_false', Bool.not_eq_true, beq_eq_false_iff_ne] at *); first | assumption | omega))) ?_; walk_say "PRUNED mine") | (refine ite_neg (by (law_purse 40000 => (law_clear; (try law_fm); (try simp only [beq_iff_eq, bne_iff_ne, ne_eq, decide_eq_true_eq, decide_eq_false_iff_not, Bool.and_eq_true, Bool.or_eq_true, Bool.not_eq_true', Bool.not_eq_false', Bool.not_eq_true, beq_eq_false_iff_ne] at *); first | assumption | omega))) ?_; walk_say "PRUNED mine"))
  k_with "call ref" => (k_here; (with_reducible show wpAny _ _ (call (Value.ref 22) _) _ _ _); k_dflt (refine' Mine.useCl (Mine.c_isleap _ _ _ _ ) ?Zq_k1 ?Zq_k2 ?Zq_k3 ?Zq_k4 ?Zq_k5 ?Zq_kK ?Zq_kd ?Zq_ku ?_; (case Zq_k1 => k_asm); (case Zq_k2 => k_asm); (case Zq_k3 => k_asm); (case Zq_k4 => k_asm); (case Zq_k5 => k_asm); (case Zq_kK => first | exact rfl | assumption); (case Zq_kd => ktr_room); (case Zq_ku => ktr_units);  k_whole; dsimp only [Mine.RetV]; intro t9 h9 tk9 F9 N9); (try k_sweep); (try k_fold))
  k_with "call ref" => (k_here; (with_reducible show wpAny _ _ (call (Value.ref 44) _) _ _ _); k_dflt (refine' Mine.useCl (Mine.c_legal _ _ _ _ _ _ _ _ ?Zq_p0 ?Zq_p1) ?Zq_k1 ?Zq_k2 ?Zq_k3 ?Zq_k4 ?Zq_k5 ?Zq_kK ?Zq_kd ?Zq_ku ?_; (case Zq_k1 => k_asm); (case Zq_k2 => k_asm); (case Zq_k3 => k_asm); (case Zq_k4 => k_asm); (case Zq_k5 => k_asm); (case Zq_kK => first | exact rfl | assumption); (case Zq_kd => ktr_room); (case Zq_ku => ktr_units); (case Zq_p0 => (first | assumption | omega | decide | (walk_at "mine_fact"))); (case Zq_p1 => (first | assumption | omega | decide | (walk_at "mine_fact"))); k_whole; dsimp only [Mine.RetV]; intro t9 h9 tk9 F9 N9); (try k_sweep); (try k_fold))
  k_with "call ref" => (k_here; (with_reducible show wpAny _ _ (call (Value.ref 58) _) _ _ _); k_dflt (refine' Mine.useCl (Mine.c_to_jd _ _ _ _ _ _ _ _ ?Zq_p0 ?Zq_p1) ?Zq_k1 ?Zq_k2 ?Zq_k3 ?Zq_k4 ?Zq_k5 ?Zq_kK ?Zq_kd ?Zq_ku ?_; (case Zq_k1 => k_asm); (case Zq_k2 => k_asm); (case Zq_k3 => k_asm); (case Zq_k4 => k_asm); (case Zq_k5 => k_asm); (case Zq_kK => first | exact rfl | assumption); (case Zq_kd => ktr_room); (case Zq_ku => ktr_units); (case Zq_p0 => (first | assumption | omega | decide | (walk_at "mine_fact"))); (case Zq_p1 => (first | assumption | omega | decide | (walk_at "mine_fact"))); k_whole; dsimp only [Mine.RetV]; intro t9 h9 tk9 F9 N9); (try k_sweep); (try k_fold))
  k_with "call ref" => (k_here; (with_reducible show wpAny _ _ (call (Value.ref 51) _) _ _ _); k_dflt (refine' Mine.useCl (Mine.c_to_jd2 _ _ _ _ _ _ _ _ ?Zq_p0 ?Zq_p1 ?Zq_p2 ?Zq_p3) ?Zq_k1 ?Zq_k2 ?Zq_k3 ?Zq_k4 ?Zq_k5 ?Zq_kK ?Zq_kd ?Zq_ku ?_; (case Zq_k1 => k_asm); (case Zq_k2 => k_asm); (case Zq_k3 => k_asm); (case Zq_k4 => k_asm); (case Zq_k5 => k_asm); (case Zq_kK => first | exact rfl | assumption); (case Zq_kd => ktr_room); (case Zq_ku => ktr_units); (case Zq_p0 => (first | assumption | omega | decide | (walk_at "mine_fact"))); (case Zq_p1 => (first | assumption | omega | decide | (walk_at "mine_fact"))); (case Zq_p2 => (first | assumption | omega | decide | (walk_at "mine_fact"))); (case Zq_p3 => (first | assumption | omega | decide | (walk_at "mine_fact"))); k_whole; dsimp only [Mine.RetV]; intro t9 h9 tk9 F9 N9); (try k_sweep); (try k_fold))
  k_fill
  intro loose mean mg mb dp un gd cn cs a ccd cl outer A₀ base h₀ L m s Q E B F X N T hk hdp hu hret
  refine wpAny_call ?_
  k_dflt cell_enter
  k_steps
  all_goals refine cb_retI hret ?_ (by k_asm) (by k_asm)
  all_goals (rw [hc]; omega)
set_option maxRecDepth 100000 in
set_option maxHeartbeats 8000000 in
theorem c_trunc (w : World) (news : List (Addr × Obj)) (p : Int) (t u : Tok) (hp : 0 ≤ p) : Cl w 36 2 20 news [.int p t, .int 10 u] (RetV news (fun t => .int (p / 10) t)) := by
  unfold Cl RetV
  w_top off
  k_with_none
  k_with "eval Call Name cons nil" => (k_here; (fail_if_success (with_reducible show wpAny _ _ (eval (Expr.Call (Expr.Name (Str.ofString "range") _) _ _ _) _) _ _ _)); refine Call_ ?_)
  k_with "compareOp In int ref" => (k_here; (with_reducible show wpAny _ _ (compareOp CmpOp.In (Value.int _ _) (Value.ref _)) _ _ _); k_dflt (first | (refine' Mine.in_K true ?Zq_F ?Zq_X ?Zq_l ?Zq_i ?Zq_b ?_; (case Zq_F => k_asm); (case Zq_X => k_asm); (case Zq_l => k_is); (case Zq_i => l_intsW); (case Zq_b => first | decide | (simp; omega)); k_whole) | (refine' Mine.in_K false ?Zq_F ?Zq_X ?Zq_l ?Zq_i ?Zq_b ?_; (case Zq_F => k_asm); (case Zq_X => k_asm); (case Zq_l => k_is); (case Zq_i => l_intsW); (case Zq_b => first | decide | (simp; omega)); k_whole)))
  k_with "ite" => (k_here; k_openite; first | (refine ite_pos (by with_reducible assumption) ?_; walk_say "PRUNED mine") | (refine ite_neg (by with_reducible assumption) ?_; walk_say "PRUNED mine") | (refine ite_pos (by (law_purse 40000 => (law_clear; (try law_fm); (try simp only [beq_iff_eq, bne_iff_ne, ne_eq, decide_eq_true_eq, decide_eq_false_iff_not, Bool.and_eq_true, Bool.or_eq_true, Bool.not_eq_true', Bool.not_eq_false', Bool.not_eq_true, beq_eq_false_iff_ne] at *); first | assumption | omega))) ?_; walk_say "PRUNED mine") | (refine ite_neg (by (law_purse 40000 => (law_clear; (try law_fm); (try simp only [beq_iff_eq, bne_iff_ne, ne_eq, decide_eq_true_eq, decide_eq_false_iff_not, Bool.and_eq_true, Bool.or_eq_true, Bool.not_eq_true', Bool.not_eq_false', Bool.not_eq_true, beq_eq_false_iff_ne] at *); first | assumption | omega))) ?_; walk_say "PRUNED mine"))
  k_with "call ref" => (k_here; (with_reducible show wpAny _ _ (call (Value.ref 22) _) _ _ _); k_dflt (refine' Mine.useCl (Mine.c_isleap _ _ _ _ ) ?Zq_k1 ?Zq_k2 ?Zq_k3 ?Zq_k4 ?Zq_k5 ?Zq_kK ?Zq_kd ?Zq_ku ?_; (case Zq_k1 => k_asm); (case Zq_k2 => k_asm); (case Zq_k3 => k_asm); (case Zq_k4 => k_asm); (case Zq_k5 => k_asm); (case Zq_kK => first | exact rfl | assumption); (case Zq_kd => ktr_room); (case Zq_ku => ktr_units);  k_whole; dsimp only [Mine.RetV]; intro t9 h9 tk9 F9 N9); (try k_sweep); (try k_fold))
  k_with "call ref" => (k_here; (with_reducible show wpAny _ _ (call (Value.ref 44) _) _ _ _); k_dflt (refine' Mine.useCl (Mine.c_legal _ _ _ _ _ _ _ _ ?Zq_p0 ?Zq_p1) ?Zq_k1 ?Zq_k2 ?Zq_k3 ?Zq_k4 ?Zq_k5 ?Zq_kK ?Zq_kd ?Zq_ku ?_; (case Zq_k1 => k_asm); (case Zq_k2 => k_asm); (case Zq_k3 => k_asm); (case Zq_k4 => k_asm); (case Zq_k5 => k_asm); (case Zq_kK => first | exact rfl | assumption); (case Zq_kd => ktr_room); (case Zq_ku => ktr_units); (case Zq_p0 => (first | assumption | omega | decide | (walk_at "mine_fact"))); (case Zq_p1 => (first | assumption | omega | decide | (walk_at "mine_fact"))); k_whole; dsimp only [Mine.RetV]; intro t9 h9 tk9 F9 N9); (try k_sweep); (try k_fold))
  k_with "call ref" => (k_here; (with_reducible show wpAny _ _ (call (Value.ref 58) _) _ _ _); k_dflt (refine' Mine.useCl (Mine.c_to_jd _ _ _ _ _ _ _ _ ?Zq_p0 ?Zq_p1) ?Zq_k1 ?Zq_k2 ?Zq_k3 ?Zq_k4 ?Zq_k5 ?Zq_kK ?Zq_kd ?Zq_ku ?_; (case Zq_k1 => k_asm); (case Zq_k2 => k_asm); (case Zq_k3 => k_asm); (case Zq_k4 => k_asm); (case Zq_k5 => k_asm); (case Zq_kK => first | exact rfl | assumption); (case Zq_kd => ktr_room); (case Zq_ku => ktr_units); (case Zq_p0 => (first | assumption | omega | decide | (walk_at "mine_fact"))); (case Zq_p1 => (first | assumption | omega | decide | (walk_at "mine_fact"))); k_whole; dsimp only [Mine.RetV]; intro t9 h9 tk9 F9 N9); (try k_sweep); (try k_fold))
  k_with "call ref" => (k_here; (with_reducible show wpAny _ _ (call (Value.ref 51) _) _ _ _); k_dflt (refine' Mine.useCl (Mine.c_to_jd2 _ _ _ _ _ _ _ _ ?Zq_p0 ?Zq_p1 ?Zq_p2 ?Zq_p3) ?Zq_k1 ?Zq_k2 ?Zq_k3 ?Zq_k4 ?Zq_k5 ?Zq_kK ?Zq_kd ?Zq_ku ?_; (case Zq_k1 => k_asm); (case Zq_k2 => k_asm); (case Zq_k3 => k_asm); (case Zq_k4 => k_asm); (case Zq_k5 => k_asm); (case Zq_kK => first | exact rfl | assumption); (case Zq_kd => ktr_room); (case Zq_ku => ktr_units); (case Zq_p0 => (first | assumption | omega | decide | (walk_at "mine_fact"))); (case Zq_p1 => (first | assumption | omega | decide | (walk_at "mine_fact"))); (case Zq_p2 => (first | assumption | omega | decide | (walk_at "mine_fact"))); (case Zq_p3 => (first | assumption | omega | decide | (walk_at "mine_fact"))); k_whole; dsimp only [Mine.RetV]; intro t9 h9 tk9 F9 N9); (try k_sweep); (try k_fold))
  k_fill
  intro loose mean mg mb dp un gd cn cs a ccd cl outer A₀ base h₀ L m s Q E B F X N T hk hdp hu hret
  refine wpAny_call ?_
  k_dflt cell_enter
  have hn : ¬ p < 0 := by omega
  k_steps
  all_goals refine cb_retI hret ?_ (by k_asm) (by k_asm)
  all_goals simp only [hn, decide_false, show ¬ (10 : Int) < 0 by decide, if_false, beq_self_eq_true, Bool.true_eq_false] at *
  exact Int.fdiv_eq_ediv_of_nonneg p (by decide)
end Mine

end

section
open PySem PySem.W PyProof.Rows PySem.Spec PySem.Calls
namespace Mine

theorem mlen31 {lp : Bool} {m d : Int} (h : d ≤ mlen lp m) : d ≤ 31 := Int.le_trans h (mlen_hi lp m)
set_option maxRecDepth 100000 in
set_option maxHeartbeats 8000000 in
theorem c_fromg (w : World) (news : List (Addr × Obj)) (y m d : Int) (t u v : Tok) (h0 : 0 < d) (h1 : d ≤ mlen (isLeap y) m) (hm : 1 ≤ m) (hm' : m ≤ 12) : Cl w 178 8 80 news [.int y t, .int m u, .int d v] (RetT2 news y (cum (isLeap y) m + d)) := by
  have h31 := mlen31 h1
  clear h1
  by_cases h2 : m ≤ 2
  all_goals
    unfold Cl
    w_top off
    k_with_none
    k_with "eval Call Name cons nil" => (k_here; (fail_if_success (with_reducible show wpAny _ _ (eval (Expr.Call (Expr.Name (Str.ofString "range") _) _ _ _) _) _ _ _)); refine Call_ ?_)
    k_with "compareOp In int ref" => (k_here; (with_reducible show wpAny _ _ (compareOp CmpOp.In (Value.int _ _) (Value.ref _)) _ _ _); k_dflt (first | (refine' Mine.in_K true ?Zq_F ?Zq_X ?Zq_l ?Zq_i ?Zq_b ?_; (case Zq_F => k_asm); (case Zq_X => k_asm); (case Zq_l => k_is); (case Zq_i => l_intsW); (case Zq_b => first | decide | (simp; omega)); k_whole) | (refine' Mine.in_K false ?Zq_F ?Zq_X ?Zq_l ?Zq_i ?Zq_b ?_; (case Zq_F => k_asm); (case Zq_X => k_asm); (case Zq_l => k_is); (case Zq_i => l_intsW); (case Zq_b => first | decide | (simp; omega)); k_whole)))
    k_with "ite" => (k_here; k_openite; first | (refine ite_pos (by with_reducible assumption) ?_; walk_say "PRUNED mine") | (refine ite_neg (by with_reducible assumption) ?_; walk_say "PRUNED mine") | (refine ite_pos (by (law_purse 40000 => (law_clear; (try law_fm); (try simp only [beq_iff_eq, bne_iff_ne, ne_eq, decide_eq_true_eq, decide_eq_false_iff_not, Bool.and_eq_true, Bool.or_eq_true, Bool.not_eq_true', Bool.not_eq_false', Bool.not_eq_true, beq_eq_false_iff_ne] at *); first | assumption | omega))) ?_; walk_say "PRUNED mine") | (refine ite_neg (by (law_purse 40000 => (law_clear; (try law_fm); (try simp only [beq_iff_eq, bne_iff_ne, ne_eq, decide_eq_true_eq, decide_eq_false_iff_not, Bool.and_eq_true, Bool.or_eq_true, Bool.not_eq_true', Bool.not_eq_false', Bool.not_eq_true, beq_eq_false_iff_ne] at *); first | assumption | omega))) ?_; walk_say "PRUNED mine"))
    k_with "call ref" => (k_here; (with_reducible show wpAny _ _ (call (Value.ref 22) _) _ _ _); k_dflt (refine' Mine.useCl (Mine.c_isleap _ _ _ _ ) ?Zq_k1 ?Zq_k2 ?Zq_k3 ?Zq_k4 ?Zq_k5 ?Zq_kK ?Zq_kd ?Zq_ku ?_; (case Zq_k1 => k_asm); (case Zq_k2 => k_asm); (case Zq_k3 => k_asm); (case Zq_k4 => k_asm); (case Zq_k5 => k_asm); (case Zq_kK => first | exact rfl | assumption); (case Zq_kd => ktr_room); (case Zq_ku => ktr_units);  k_whole; dsimp only [Mine.RetV]; intro t9 h9 tk9 F9 N9); (try k_sweep); (try k_fold))
    k_with "call ref" => (k_here; (with_reducible show wpAny _ _ (call (Value.ref 44) _) _ _ _); k_dflt (refine' Mine.useCl (Mine.c_legal _ _ _ _ _ _ _ _ ?Zq_p0 ?Zq_p1) ?Zq_k1 ?Zq_k2 ?Zq_k3 ?Zq_k4 ?Zq_k5 ?Zq_kK ?Zq_kd ?Zq_ku ?_; (case Zq_k1 => k_asm); (case Zq_k2 => k_asm); (case Zq_k3 => k_asm); (case Zq_k4 => k_asm); (case Zq_k5 => k_asm); (case Zq_kK => first | exact rfl | assumption); (case Zq_kd => ktr_room); (case Zq_ku => ktr_units); (case Zq_p0 => (first | assumption | omega | decide | (walk_at "mine_fact"))); (case Zq_p1 => (first | assumption | omega | decide | (walk_at "mine_fact"))); k_whole; dsimp only [Mine.RetV]; intro t9 h9 tk9 F9 N9); (try k_sweep); (try k_fold))
    k_with "call ref" => (k_here; (with_reducible show wpAny _ _ (call (Value.ref 58) _) _ _ _); k_dflt (refine' Mine.useCl (Mine.c_to_jd _ _ _ _ _ _ _ _ ?Zq_p0 ?Zq_p1) ?Zq_k1 ?Zq_k2 ?Zq_k3 ?Zq_k4 ?Zq_k5 ?Zq_kK ?Zq_kd ?Zq_ku ?_; (case Zq_k1 => k_asm); (case Zq_k2 => k_asm); (case Zq_k3 => k_asm); (case Zq_k4 => k_asm); (case Zq_k5 => k_asm); (case Zq_kK => first | exact rfl | assumption); (case Zq_kd => ktr_room); (case Zq_ku => ktr_units); (case Zq_p0 => (first | assumption | omega | decide | (walk_at "mine_fact"))); (case Zq_p1 => (first | assumption | omega | decide | (walk_at "mine_fact"))); k_whole; dsimp only [Mine.RetV]; intro t9 h9 tk9 F9 N9); (try k_sweep); (try k_fold))
    k_with "call ref" => (k_here; (with_reducible show wpAny _ _ (call (Value.ref 51) _) _ _ _); k_dflt (refine' Mine.useCl (Mine.c_to_jd2 _ _ _ _ _ _ _ _ ?Zq_p0 ?Zq_p1 ?Zq_p2 ?Zq_p3) ?Zq_k1 ?Zq_k2 ?Zq_k3 ?Zq_k4 ?Zq_k5 ?Zq_kK ?Zq_kd ?Zq_ku ?_; (case Zq_k1 => k_asm); (case Zq_k2 => k_asm); (case Zq_k3 => k_asm); (case Zq_k4 => k_asm); (case Zq_k5 => k_asm); (case Zq_kK => first | exact rfl | assumption); (case Zq_kd => ktr_room); (case Zq_ku => ktr_units); (case Zq_p0 => (first | assumption | omega | decide | (walk_at "mine_fact"))); (case Zq_p1 => (first | assumption | omega | decide | (walk_at "mine_fact"))); (case Zq_p2 => (first | assumption | omega | decide | (walk_at "mine_fact"))); (case Zq_p3 => (first | assumption | omega | decide | (walk_at "mine_fact"))); k_whole; dsimp only [Mine.RetV]; intro t9 h9 tk9 F9 N9); (try k_sweep); (try k_fold))
    k_with "call ref" => (k_here; (with_reducible show wpAny _ _ (call (Value.ref 36) _) _ _ _); k_dflt (refine' Mine.useCl (Mine.c_trunc _ _ _ _ _ ?Zq_p0) ?Zq_k1 ?Zq_k2 ?Zq_k3 ?Zq_k4 ?Zq_k5 ?Zq_kK ?Zq_kd ?Zq_ku ?_; (case Zq_k1 => k_asm); (case Zq_k2 => k_asm); (case Zq_k3 => k_asm); (case Zq_k4 => k_asm); (case Zq_k5 => k_asm); (case Zq_kK => first | exact rfl | assumption); (case Zq_kd => ktr_room); (case Zq_ku => ktr_units); (case Zq_p0 => (first | assumption | omega | decide | (walk_at "mine_fact"))); k_whole; dsimp only [Mine.RetV]; intro t9 h9 tk9 F9 N9); (try k_sweep); (try k_fold))
    k_fill
    intro loose mean mg mb dp un gd cn cs a ccd cl outer A₀ base h₀ L mm s Q E B F X N T hk hdp hu hret
    refine wpAny_call ?_
    k_dflt cell_enter
    k_steps
    all_goals refine ret2_end hret (by k_asm) (by k_asm) (by k_asm) rfl ?_
  · exact fromg_lo hm h2
  · exact fromg_hi h2 hm'
end Mine

end

section
open PySem PySem.W PyProof.Rows PySem.Spec PySem.Calls
namespace Mine

theorem mlen28 (lp : Bool) (m : Int) : 1 ≤ mlen lp m := by unfold mlen; (repeat' split) <;> decide
set_option maxRecDepth 100000 in
set_option maxHeartbeats 8000000 in
theorem c_from_jd (w : World) (news : List (Addr × Obj)) (y m d j : Int) (t : Tok) (hm : 1 ≤ m) (hm' : m ≤ 12) (h0 : 0 < d) (h1 : d ≤ mlen (isLeap y) m) (hj : j = jan1 y + cum (isLeap y) m + d - 1) : Cl w 65 8 80 news [.int j t] (RetT3 news y m d) := by
  obtain ⟨qc, dqc, cent, dcent, quad, dquad, yi, yd, e1, e2, e3, e4, e5, e6, e7, e8, e10, e11, e12⟩ := fromjd_math hm hm' h0 h1 hj
  clear hj
  have g1 := mlen28 (isLeap y) 1
  have g2 := mlen28 (isLeap y) m
  have n1 : Named "year" y := ⟨⟩
  have n2 : Named "leap_adj" (adjOf (isLeap y) yd) := ⟨⟩
  unfold Cl
  w_top off
  k_with_none
  k_with "eval Call Name cons nil" => (k_here; (fail_if_success (with_reducible show wpAny _ _ (eval (Expr.Call (Expr.Name (Str.ofString "range") _) _ _ _) _) _ _ _)); refine Call_ ?_)
  k_with "compareOp In int ref" => (k_here; (with_reducible show wpAny _ _ (compareOp CmpOp.In (Value.int _ _) (Value.ref _)) _ _ _); k_dflt (first | (refine' Mine.in_K true ?Zq_F ?Zq_X ?Zq_l ?Zq_i ?Zq_b ?_; (case Zq_F => k_asm); (case Zq_X => k_asm); (case Zq_l => k_is); (case Zq_i => l_intsW); (case Zq_b => first | decide | (simp; omega)); k_whole) | (refine' Mine.in_K false ?Zq_F ?Zq_X ?Zq_l ?Zq_i ?Zq_b ?_; (case Zq_F => k_asm); (case Zq_X => k_asm); (case Zq_l => k_is); (case Zq_i => l_intsW); (case Zq_b => first | decide | (simp; omega)); k_whole)))
  k_with "ite" => (k_here; k_openite; first | (refine ite_pos (by with_reducible assumption) ?_; walk_say "PRUNED mine") | (refine ite_neg (by with_reducible assumption) ?_; walk_say "PRUNED mine") | (refine ite_pos (by (law_purse 40000 => (law_clear; (try law_fm); (try simp only [beq_iff_eq, bne_iff_ne, ne_eq, decide_eq_true_eq, decide_eq_false_iff_not, Bool.and_eq_true, Bool.or_eq_true, Bool.not_eq_true', Bool.not_eq_false', Bool.not_eq_true, beq_eq_false_iff_ne] at *); first | assumption | omega))) ?_; walk_say "PRUNED mine") | (refine ite_neg (by (law_purse 40000 => (law_clear; (try law_fm); (try simp only [beq_iff_eq, bne_iff_ne, ne_eq, decide_eq_true_eq, decide_eq_false_iff_not, Bool.and_eq_true, Bool.or_eq_true, Bool.not_eq_true', Bool.not_eq_false', Bool.not_eq_true, beq_eq_false_iff_ne] at *); first | assumption | omega))) ?_; walk_say "PRUNED mine"))
  k_with "call ref" => (k_here; (with_reducible show wpAny _ _ (call (Value.ref 22) _) _ _ _); k_dflt (refine' Mine.useCl (Mine.c_isleap _ _ _ _ ) ?Zq_k1 ?Zq_k2 ?Zq_k3 ?Zq_k4 ?Zq_k5 ?Zq_kK ?Zq_kd ?Zq_ku ?_; (case Zq_k1 => k_asm); (case Zq_k2 => k_asm); (case Zq_k3 => k_asm); (case Zq_k4 => k_asm); (case Zq_k5 => k_asm); (case Zq_kK => first | exact rfl | assumption); (case Zq_kd => ktr_room); (case Zq_ku => ktr_units);  k_whole; dsimp only [Mine.RetV]; intro t9 h9 tk9 F9 N9); (try k_sweep); (try k_fold))
  k_with "call ref" => (k_here; (with_reducible show wpAny _ _ (call (Value.ref 44) _) _ _ _); k_dflt (refine' Mine.useCl (Mine.c_legal _ _ _ _ _ _ _ _ ?Zq_p0 ?Zq_p1) ?Zq_k1 ?Zq_k2 ?Zq_k3 ?Zq_k4 ?Zq_k5 ?Zq_kK ?Zq_kd ?Zq_ku ?_; (case Zq_k1 => k_asm); (case Zq_k2 => k_asm); (case Zq_k3 => k_asm); (case Zq_k4 => k_asm); (case Zq_k5 => k_asm); (case Zq_kK => first | exact rfl | assumption); (case Zq_kd => ktr_room); (case Zq_ku => ktr_units); (case Zq_p0 => (first | assumption | omega | decide | (walk_at "mine_fact"))); (case Zq_p1 => (first | assumption | omega | decide | (walk_at "mine_fact"))); k_whole; dsimp only [Mine.RetV]; intro t9 h9 tk9 F9 N9); (try k_sweep); (try k_fold))
  k_with "call ref" => (k_here; (with_reducible show wpAny _ _ (call (Value.ref 58) _) _ _ _); k_dflt (refine' Mine.useCl (Mine.c_to_jd _ _ _ _ _ _ _ _ ?Zq_p0 ?Zq_p1) ?Zq_k1 ?Zq_k2 ?Zq_k3 ?Zq_k4 ?Zq_k5 ?Zq_kK ?Zq_kd ?Zq_ku ?_; (case Zq_k1 => k_asm); (case Zq_k2 => k_asm); (case Zq_k3 => k_asm); (case Zq_k4 => k_asm); (case Zq_k5 => k_asm); (case Zq_kK => first | exact rfl | assumption); (case Zq_kd => ktr_room); (case Zq_ku => ktr_units); (case Zq_p0 => (first | assumption | omega | decide | (walk_at "mine_fact"))); (case Zq_p1 => (first | assumption | omega | decide | (walk_at "mine_fact"))); k_whole; dsimp only [Mine.RetV]; intro t9 h9 tk9 F9 N9); (try k_sweep); (try k_fold))
  k_with "binaryOp FloorDiv int int" => (k_here; refine' Mine.fdiv_as ?Zq_hq ?Zq_hb ?_ ?Zq_hp; (case Zq_hq => with_reducible assumption); (case Zq_hb => decide); (case Zq_hp => exact Or.inl (PyProof.noPylong_of_log2 (by decide +kernel))); k_whole)
  k_with "binaryOp Mod int int" => (k_here; refine' Mine.fmod_as ?Zq_hq ?Zq_hb ?_; (case Zq_hq => with_reducible assumption); (case Zq_hb => decide); k_whole)
  k_with "binaryOp Add int int" => (k_here; refine' Mine.add_as ?Zq_hq ?_; (case Zq_hq => with_reducible assumption); k_whole)
  k_with "binaryOp Sub int int" => (k_here; refine' Mine.sub_as ?Zq_hq ?_; (case Zq_hq => with_reducible assumption); k_whole)
  k_with "JInt" => first | (refine Mine.jint_stored ?Zq_e (by k_asm) (by first | k_asm | (refine' cb_drop ?Zq_cbN ?Zq_cbS; (case Zq_cbN => assumption); (case Zq_cbS => kcj_all))); (case Zq_e => first | rfl | assumption | (walk_at "mine_eq"))) | (refine Mine.jint_kept ?Zq_e rfl (by k_asm) (by first | k_asm | (refine' cb_drop ?Zq_cbN ?Zq_cbS; (case Zq_cbN => assumption); (case Zq_cbS => kcj_all))); (case Zq_e => first | rfl | assumption | (walk_at "mine_eq")))
  k_with "JSame" => (refine Mine.jsame_end (by k_asm) (by first | k_asm | (refine' cb_drop ?Zq_cbN ?Zq_cbS; (case Zq_cbN => assumption); (case Zq_cbS => kcj_all))))
  k_with "mine_eq" => first | exact Mine.adj_0 (by with_reducible assumption) | exact Mine.adj_1 (by with_reducible assumption) (by with_reducible assumption) | exact Mine.adj_2 (by with_reducible assumption) (by with_reducible assumption) | (law_purse 40000 => (law_clear; omega))
  k_with "exec If UnaryOp cons nil" => (k_here; (fail_if_success (with_reducible show wpAny _ _ _ (Mine.JInt _ _ _ _ _ _ _) _ _)); refine' Mine.joinInt (x := "year") ?Zq_hn ?Zq_F ?Zq_N ?_ ?_; (case Zq_hn => assumption); (case Zq_F => k_asm); (case Zq_N => k_asm); k_whole; rotate_left; (intro h9 tk9 t9 F9 N9; (try k_sweep)); rotate_right; (try k_fold))
  k_with "exec If Compare cons cons" => (k_here; (fail_if_success (with_reducible show wpAny _ _ _ (Mine.JInt _ _ _ _ _ _ _) _ _)); refine' Mine.joinInt (x := "leap_adj") ?Zq_hn ?Zq_F ?Zq_N ?_ ?_; (case Zq_hn => assumption); (case Zq_F => k_asm); (case Zq_N => k_asm); k_whole; rotate_left; (intro h9 tk9 t9 F9 N9; (try k_sweep)); rotate_right; (try k_fold))
  k_fill
  intro loose mean mg mb dp un gd cn cs a ccd cl outer A₀ base h₀ L mm s Q E B F X N T hk hdp hu hret
  refine wpAny_call ?_
  k_dflt cell_enter
  k_steps
  all_goals refine ret3_end hret (by k_asm) (by k_asm) (by k_asm) rfl rfl rfl
end Mine

end

section
open PySem PySem.W PyProof.Rows PySem.Spec PySem.Calls
namespace Mine

set_option maxRecDepth 100000 in
set_option maxHeartbeats 8000000 in
theorem c_jleap (w : World) (news : List (Addr × Obj)) (y : Int) (t : Tok) : Cl w 73 2 20 news [.int y t] (RetV news (fun _ => .bool (jLeap y))) := by
  unfold Cl RetV
  w_top off
  k_with_none
  k_with "eval Call Name cons nil" => (k_here; (fail_if_success (with_reducible show wpAny _ _ (eval (Expr.Call (Expr.Name (Str.ofString "range") _) _ _ _) _) _ _ _)); refine Call_ ?_)
  k_with "compareOp In int ref" => (k_here; (with_reducible show wpAny _ _ (compareOp CmpOp.In (Value.int _ _) (Value.ref _)) _ _ _); k_dflt (first | (refine' Mine.in_K true ?Zq_F ?Zq_X ?Zq_l ?Zq_i ?Zq_b ?_; (case Zq_F => k_asm); (case Zq_X => k_asm); (case Zq_l => k_is); (case Zq_i => l_intsW); (case Zq_b => first | decide | (simp; omega)); k_whole) | (refine' Mine.in_K false ?Zq_F ?Zq_X ?Zq_l ?Zq_i ?Zq_b ?_; (case Zq_F => k_asm); (case Zq_X => k_asm); (case Zq_l => k_is); (case Zq_i => l_intsW); (case Zq_b => first | decide | (simp; omega)); k_whole)))
  k_with "ite" => (k_here; k_openite; first | (refine ite_pos (by with_reducible assumption) ?_; walk_say "PRUNED mine") | (refine ite_neg (by with_reducible assumption) ?_; walk_say "PRUNED mine") | (refine ite_pos (by (law_purse 40000 => (law_clear; (try law_fm); (try simp only [beq_iff_eq, bne_iff_ne, ne_eq, decide_eq_true_eq, decide_eq_false_iff_not, Bool.and_eq_true, Bool.or_eq_true, Bool.not_eq_true', Bool.not_eq_false', Bool.not_eq_true, beq_eq_false_iff_ne] at *); first | assumption | omega))) ?_; walk_say "PRUNED mine") | (refine ite_neg (by (law_purse 40000 => (law_clear; (try law_fm); (try simp only [beq_iff_eq, bne_iff_ne, ne_eq, decide_eq_true_eq, decide_eq_false_iff_not, Bool.and_eq_true, Bool.or_eq_true, Bool.not_eq_true', Bool.not_eq_false', Bool.not_eq_true, beq_eq_false_iff_ne] at *); first | assumption | omega))) ?_; walk_say "PRUNED mine"))
  k_with "binaryOp FloorDiv int int" => (k_here; refine' Mine.fdiv_as ?Zq_hq ?Zq_hb ?_ ?Zq_hp; (case Zq_hq => with_reducible assumption); (case Zq_hb => decide); (case Zq_hp => exact Or.inl (PyProof.noPylong_of_log2 (by decide +kernel))); k_whole)
  k_with "binaryOp Mod int int" => (k_here; refine' Mine.fmod_as ?Zq_hq ?Zq_hb ?_; (case Zq_hq => with_reducible assumption); (case Zq_hb => decide); k_whole)
  k_with "binaryOp Add int int" => (k_here; refine' Mine.add_as ?Zq_hq ?_; (case Zq_hq => with_reducible assumption); k_whole)
  k_with "binaryOp Sub int int" => (k_here; refine' Mine.sub_as ?Zq_hq ?_; (case Zq_hq => with_reducible assumption); k_whole)
  k_with "JInt" => first | (refine Mine.jint_stored ?Zq_e (by k_asm) (by first | k_asm | (refine' cb_drop ?Zq_cbN ?Zq_cbS; (case Zq_cbN => assumption); (case Zq_cbS => kcj_all))); (case Zq_e => first | rfl | assumption | (walk_at "mine_eq"))) | (refine Mine.jint_kept ?Zq_e rfl (by k_asm) (by first | k_asm | (refine' cb_drop ?Zq_cbN ?Zq_cbS; (case Zq_cbN => assumption); (case Zq_cbS => kcj_all))); (case Zq_e => first | rfl | assumption | (walk_at "mine_eq")))
  k_with "JSame" => (refine Mine.jsame_end (by k_asm) (by first | k_asm | (refine' cb_drop ?Zq_cbN ?Zq_cbS; (case Zq_cbN => assumption); (case Zq_cbS => kcj_all))))
  k_with "call ref" => (k_here; (with_reducible show wpAny _ _ (call (Value.ref 73) _) _ _ _); k_dflt (refine' Mine.useCl (Mine.c_jleap _ _ _ _ ) ?Zq_k1 ?Zq_k2 ?Zq_k3 ?Zq_k4 ?Zq_k5 ?Zq_kK ?Zq_kd ?Zq_ku ?_; (case Zq_k1 => k_asm); (case Zq_k2 => k_asm); (case Zq_k3 => k_asm); (case Zq_k4 => k_asm); (case Zq_k5 => k_asm); (case Zq_kK => first | exact rfl | assumption); (case Zq_kd => ktr_room); (case Zq_ku => ktr_units);  k_whole; dsimp only [Mine.RetV]; intro t9 h9 tk9 F9 N9); (try k_sweep); (try k_fold))
  k_fill
  intro loose mean mg mb dp un gd cn cs a ccd cl outer A₀ base h₀ L m s Q E B F X N T hk hdp hu hret
  refine wpAny_call ?_
  k_dflt cell_enter
  k_steps
  all_goals refine cb_retB hret ?_ (by k_asm) (by k_asm)
  all_goals rfl
set_option maxRecDepth 100000 in
set_option maxHeartbeats 8000000 in
theorem c_jlen (w : World) (news : List (Addr × Obj)) (y m : Int) (t u : Tok) : Cl w 80 4 40 news [.int y t, .int m u] (RetV news (fun t => .int (mlen (jLeap y) m) t)) := by
  have n1 : Named "daysinmonth" (mlen (jLeap y) m) := ⟨⟩
  unfold Cl RetV
  w_top off
  k_with_none
  k_with "eval Call Name cons nil" => (k_here; (fail_if_success (with_reducible show wpAny _ _ (eval (Expr.Call (Expr.Name (Str.ofString "range") _) _ _ _) _) _ _ _)); refine Call_ ?_)
  k_with "compareOp In int ref" => (k_here; (with_reducible show wpAny _ _ (compareOp CmpOp.In (Value.int _ _) (Value.ref _)) _ _ _); k_dflt (first | (refine' Mine.in_K true ?Zq_F ?Zq_X ?Zq_l ?Zq_i ?Zq_b ?_; (case Zq_F => k_asm); (case Zq_X => k_asm); (case Zq_l => k_is); (case Zq_i => l_intsW); (case Zq_b => first | decide | (simp; omega)); k_whole) | (refine' Mine.in_K false ?Zq_F ?Zq_X ?Zq_l ?Zq_i ?Zq_b ?_; (case Zq_F => k_asm); (case Zq_X => k_asm); (case Zq_l => k_is); (case Zq_i => l_intsW); (case Zq_b => first | decide | (simp; omega)); k_whole)))
  k_with "ite" => (k_here; k_openite; first | (refine ite_pos (by with_reducible assumption) ?_; walk_say "PRUNED mine") | (refine ite_neg (by with_reducible assumption) ?_; walk_say "PRUNED mine") | (refine ite_pos (by (law_purse 40000 => (law_clear; (try law_fm); (try simp only [beq_iff_eq, bne_iff_ne, ne_eq, decide_eq_true_eq, decide_eq_false_iff_not, Bool.and_eq_true, Bool.or_eq_true, Bool.not_eq_true', Bool.not_eq_false', Bool.not_eq_true, beq_eq_false_iff_ne] at *); first | assumption | omega))) ?_; walk_say "PRUNED mine") | (refine ite_neg (by (law_purse 40000 => (law_clear; (try law_fm); (try simp only [beq_iff_eq, bne_iff_ne, ne_eq, decide_eq_true_eq, decide_eq_false_iff_not, Bool.and_eq_true, Bool.or_eq_true, Bool.not_eq_true', Bool.not_eq_false', Bool.not_eq_true, beq_eq_false_iff_ne] at *); first | assumption | omega))) ?_; walk_say "PRUNED mine"))
  k_with "binaryOp FloorDiv int int" => (k_here; refine' Mine.fdiv_as ?Zq_hq ?Zq_hb ?_ ?Zq_hp; (case Zq_hq => with_reducible assumption); (case Zq_hb => decide); (case Zq_hp => exact Or.inl (PyProof.noPylong_of_log2 (by decide +kernel))); k_whole)
  k_with "binaryOp Mod int int" => (k_here; refine' Mine.fmod_as ?Zq_hq ?Zq_hb ?_; (case Zq_hq => with_reducible assumption); (case Zq_hb => decide); k_whole)
  k_with "binaryOp Add int int" => (k_here; refine' Mine.add_as ?Zq_hq ?_; (case Zq_hq => with_reducible assumption); k_whole)
  k_with "binaryOp Sub int int" => (k_here; refine' Mine.sub_as ?Zq_hq ?_; (case Zq_hq => with_reducible assumption); k_whole)
  k_with "JInt" => first | (refine Mine.jint_stored ?Zq_e (by k_asm) (by first | k_asm | (refine' cb_drop ?Zq_cbN ?Zq_cbS; (case Zq_cbN => assumption); (case Zq_cbS => kcj_all))); (case Zq_e => first | rfl | assumption | (walk_at "mine_eq"))) | (refine Mine.jint_kept ?Zq_e rfl (by k_asm) (by first | k_asm | (refine' cb_drop ?Zq_cbN ?Zq_cbS; (case Zq_cbN => assumption); (case Zq_cbS => kcj_all))); (case Zq_e => first | rfl | assumption | (walk_at "mine_eq")))
  k_with "JSame" => (refine Mine.jsame_end (by k_asm) (by first | k_asm | (refine' cb_drop ?Zq_cbN ?Zq_cbS; (case Zq_cbN => assumption); (case Zq_cbS => kcj_all))))
  k_with "call ref" => (k_here; (with_reducible show wpAny _ _ (call (Value.ref 73) _) _ _ _); k_dflt (refine' Mine.useCl (Mine.c_jleap _ _ _ _ ) ?Zq_k1 ?Zq_k2 ?Zq_k3 ?Zq_k4 ?Zq_k5 ?Zq_kK ?Zq_kd ?Zq_ku ?_; (case Zq_k1 => k_asm); (case Zq_k2 => k_asm); (case Zq_k3 => k_asm); (case Zq_k4 => k_asm); (case Zq_k5 => k_asm); (case Zq_kK => first | exact rfl | assumption); (case Zq_kd => ktr_room); (case Zq_ku => ktr_units);  k_whole; dsimp only [Mine.RetV]; intro t9 h9 tk9 F9 N9); (try k_sweep); (try k_fold))
  k_with "compareOp In int ref" => (k_here; (with_reducible show wpAny _ _ (compareOp CmpOp.In (Value.int _ _) (Value.ref _)) _ _ _); k_dflt (refine' Mine.in_K _ ?Zq_F ?Zq_X ?Zq_l ?Zq_i rfl ?_; (case Zq_F => k_asm); (case Zq_X => k_asm); (case Zq_l => k_is); (case Zq_i => l_intsW); k_whole))
  k_with "exec If Compare cons cons" => (k_here; (with_reducible show wpAny _ _ (exec (Stmt.If (Expr.Compare (Expr.Name (Str.ofString "month") _) [CmpOp.Eq] _ _) _ _ _) _) _ _ _); (fail_if_success (have hJ9 : Mine.Joined "daysinmonth" := by assumption)); k_dflt (refine' Mine.joinInt (x := "daysinmonth") ?Zq_hn ?Zq_F ?Zq_N ?_ ?_; (case Zq_hn => assumption); (case Zq_F => k_asm); (case Zq_N => k_asm); k_whole); rotate_left; (intro h9 tk9 t9 F9 N9; (try k_sweep)); rotate_right; (have hJ9 := Mine.Joined.mk (x := "daysinmonth"); try k_fold))
  k_with "mine_eq" => first | exact Mine.len_a (by with_reducible assumption) (by with_reducible assumption) | exact Mine.len_b (by with_reducible assumption) (by with_reducible assumption) | exact Mine.len_c (by with_reducible assumption) (by with_reducible assumption) | exact Mine.len_d (by with_reducible assumption) (by with_reducible assumption)
  k_fill
  intro loose mean mg mb dp un gd cn cs a ccd cl outer A₀ base h₀ L mm s Q E B F X N T hk hdp hu hret
  refine wpAny_call ?_
  k_dflt cell_enter
  k_steps
  all_goals refine cb_retI hret ?_ (by k_asm) (by k_asm)
  all_goals rfl
set_option maxRecDepth 100000 in
set_option maxHeartbeats 8000000 in
theorem c_jlegal (w : World) (news : List (Addr × Obj)) (y m d : Int) (t u v : Tok) (h0 : 0 < d) (h1 : d ≤ mlen (jLeap y) m) : Cl w 87 6 60 news [.int y t, .int m u, .int d v] (RetV news (fun _ => .bool true)) := by
  unfold Cl RetV
  w_top off
  k_with_none
  k_with "eval Call Name cons nil" => (k_here; (fail_if_success (with_reducible show wpAny _ _ (eval (Expr.Call (Expr.Name (Str.ofString "range") _) _ _ _) _) _ _ _)); refine Call_ ?_)
  k_with "compareOp In int ref" => (k_here; (with_reducible show wpAny _ _ (compareOp CmpOp.In (Value.int _ _) (Value.ref _)) _ _ _); k_dflt (first | (refine' Mine.in_K true ?Zq_F ?Zq_X ?Zq_l ?Zq_i ?Zq_b ?_; (case Zq_F => k_asm); (case Zq_X => k_asm); (case Zq_l => k_is); (case Zq_i => l_intsW); (case Zq_b => first | decide | (simp; omega)); k_whole) | (refine' Mine.in_K false ?Zq_F ?Zq_X ?Zq_l ?Zq_i ?Zq_b ?_; (case Zq_F => k_asm); (case Zq_X => k_asm); (case Zq_l => k_is); (case Zq_i => l_intsW); (case Zq_b => first | decide | (simp; omega)); k_whole)))
  k_with "ite" => (k_here; k_openite; first | (refine ite_pos (by with_reducible assumption) ?_; walk_say "PRUNED mine") | (refine ite_neg (by with_reducible assumption) ?_; walk_say "PRUNED mine") | (refine ite_pos (by (law_purse 40000 => (law_clear; (try law_fm); (try simp only [beq_iff_eq, bne_iff_ne, ne_eq, decide_eq_true_eq, decide_eq_false_iff_not, Bool.and_eq_true, Bool.or_eq_true, Bool.not_eq_true', Bool.not_eq_false', Bool.not_eq_true, beq_eq_false_iff_ne] at *); first | assumption | omega))) ?_; walk_say "PRUNED mine") | (refine ite_neg (by (law_purse 40000 => (law_clear; (try law_fm); (try simp only [beq_iff_eq, bne_iff_ne, ne_eq, decide_eq_true_eq, decide_eq_false_iff_not, Bool.and_eq_true, Bool.or_eq_true, Bool.not_eq_true', Bool.not_eq_false', Bool.not_eq_true, beq_eq_false_iff_ne] at *); first | assumption | omega))) ?_; walk_say "PRUNED mine"))
  k_with "binaryOp FloorDiv int int" => (k_here; refine' Mine.fdiv_as ?Zq_hq ?Zq_hb ?_ ?Zq_hp; (case Zq_hq => with_reducible assumption); (case Zq_hb => decide); (case Zq_hp => exact Or.inl (PyProof.noPylong_of_log2 (by decide +kernel))); k_whole)
  k_with "binaryOp Mod int int" => (k_here; refine' Mine.fmod_as ?Zq_hq ?Zq_hb ?_; (case Zq_hq => with_reducible assumption); (case Zq_hb => decide); k_whole)
  k_with "binaryOp Add int int" => (k_here; refine' Mine.add_as ?Zq_hq ?_; (case Zq_hq => with_reducible assumption); k_whole)
  k_with "binaryOp Sub int int" => (k_here; refine' Mine.sub_as ?Zq_hq ?_; (case Zq_hq => with_reducible assumption); k_whole)
  k_with "JInt" => first | (refine Mine.jint_stored ?Zq_e (by k_asm) (by first | k_asm | (refine' cb_drop ?Zq_cbN ?Zq_cbS; (case Zq_cbN => assumption); (case Zq_cbS => kcj_all))); (case Zq_e => first | rfl | assumption | (walk_at "mine_eq"))) | (refine Mine.jint_kept ?Zq_e rfl (by k_asm) (by first | k_asm | (refine' cb_drop ?Zq_cbN ?Zq_cbS; (case Zq_cbN => assumption); (case Zq_cbS => kcj_all))); (case Zq_e => first | rfl | assumption | (walk_at "mine_eq")))
  k_with "JSame" => (refine Mine.jsame_end (by k_asm) (by first | k_asm | (refine' cb_drop ?Zq_cbN ?Zq_cbS; (case Zq_cbN => assumption); (case Zq_cbS => kcj_all))))
  k_with "call ref" => (k_here; (with_reducible show wpAny _ _ (call (Value.ref 73) _) _ _ _); k_dflt (refine' Mine.useCl (Mine.c_jleap _ _ _ _ ) ?Zq_k1 ?Zq_k2 ?Zq_k3 ?Zq_k4 ?Zq_k5 ?Zq_kK ?Zq_kd ?Zq_ku ?_; (case Zq_k1 => k_asm); (case Zq_k2 => k_asm); (case Zq_k3 => k_asm); (case Zq_k4 => k_asm); (case Zq_k5 => k_asm); (case Zq_kK => first | exact rfl | assumption); (case Zq_kd => ktr_room); (case Zq_ku => ktr_units);  k_whole; dsimp only [Mine.RetV]; intro t9 h9 tk9 F9 N9); (try k_sweep); (try k_fold))
  k_with "compareOp In int ref" => (k_here; (with_reducible show wpAny _ _ (compareOp CmpOp.In (Value.int _ _) (Value.ref _)) _ _ _); k_dflt (refine' Mine.in_K _ ?Zq_F ?Zq_X ?Zq_l ?Zq_i rfl ?_; (case Zq_F => k_asm); (case Zq_X => k_asm); (case Zq_l => k_is); (case Zq_i => l_intsW); k_whole))
  k_with "exec If Compare cons cons" => (k_here; (with_reducible show wpAny _ _ (exec (Stmt.If (Expr.Compare (Expr.Name (Str.ofString "month") _) [CmpOp.Eq] _ _) _ _ _) _) _ _ _); (fail_if_success (have hJ9 : Mine.Joined "daysinmonth" := by assumption)); k_dflt (refine' Mine.joinInt (x := "daysinmonth") ?Zq_hn ?Zq_F ?Zq_N ?_ ?_; (case Zq_hn => assumption); (case Zq_F => k_asm); (case Zq_N => k_asm); k_whole); rotate_left; (intro h9 tk9 t9 F9 N9; (try k_sweep)); rotate_right; (have hJ9 := Mine.Joined.mk (x := "daysinmonth"); try k_fold))
  k_with "mine_eq" => first | exact Mine.len_a (by with_reducible assumption) (by with_reducible assumption) | exact Mine.len_b (by with_reducible assumption) (by with_reducible assumption) | exact Mine.len_c (by with_reducible assumption) (by with_reducible assumption) | exact Mine.len_d (by with_reducible assumption) (by with_reducible assumption)
  k_with "call ref" => (k_here; (with_reducible show wpAny _ _ (call (Value.ref 80) _) _ _ _); k_dflt (refine' Mine.useCl (Mine.c_jlen _ _ _ _ _ _ ) ?Zq_k1 ?Zq_k2 ?Zq_k3 ?Zq_k4 ?Zq_k5 ?Zq_kK ?Zq_kd ?Zq_ku ?_; (case Zq_k1 => k_asm); (case Zq_k2 => k_asm); (case Zq_k3 => k_asm); (case Zq_k4 => k_asm); (case Zq_k5 => k_asm); (case Zq_kK => first | exact rfl | assumption); (case Zq_kd => ktr_room); (case Zq_ku => ktr_units);  k_whole; dsimp only [Mine.RetV]; intro t9 h9 tk9 F9 N9); (try k_sweep); (try k_fold))
  k_fill
  intro loose mean mg mb dp un gd cn cs a ccd cl outer A₀ base h₀ L m s Q E B F X N T hk hdp hu hret
  refine wpAny_call ?_
  k_dflt cell_enter
  k_steps
  all_goals exact hret 0 _ _ (by k_asm) (by k_asm)
set_option maxRecDepth 100000 in
set_option maxHeartbeats 8000000 in
theorem c_jto (w : World) (news : List (Addr × Obj)) (y m d : Int) (t u v : Tok) (h0 : 0 < d) (h1 : d ≤ mlen (jLeap y) m) (hm : 1 ≤ m) (hm' : m ≤ 12) : Cl w 101 8 80 news [.int y t, .int m u, .int d v] (RetV news (fun t => .int (jan1j y + cum (jLeap y) m + d - 1) t)) := by
  unfold Cl RetV
  w_top off
  k_with_none
  k_with "eval Call Name cons nil" => (k_here; (fail_if_success (with_reducible show wpAny _ _ (eval (Expr.Call (Expr.Name (Str.ofString "range") _) _ _ _) _) _ _ _)); refine Call_ ?_)
  k_with "compareOp In int ref" => (k_here; (with_reducible show wpAny _ _ (compareOp CmpOp.In (Value.int _ _) (Value.ref _)) _ _ _); k_dflt (first | (refine' Mine.in_K true ?Zq_F ?Zq_X ?Zq_l ?Zq_i ?Zq_b ?_; (case Zq_F => k_asm); (case Zq_X => k_asm); (case Zq_l => k_is); (case Zq_i => l_intsW); (case Zq_b => first | decide | (simp; omega)); k_whole) | (refine' Mine.in_K false ?Zq_F ?Zq_X ?Zq_l ?Zq_i ?Zq_b ?_; (case Zq_F => k_asm); (case Zq_X => k_asm); (case Zq_l => k_is); (case Zq_i => l_intsW); (case Zq_b => first | decide | (simp; omega)); k_whole)))
  k_with "ite" => (k_here; k_openite; first | (refine ite_pos (by with_reducible assumption) ?_; walk_say "PRUNED mine") | (refine ite_neg (by with_reducible assumption) ?_; walk_say "PRUNED mine") | (refine ite_pos (by (law_purse 40000 => (law_clear; (try law_fm); (try simp only [beq_iff_eq, bne_iff_ne, ne_eq, decide_eq_true_eq, decide_eq_false_iff_not, Bool.and_eq_true, Bool.or_eq_true, Bool.not_eq_true', Bool.not_eq_false', Bool.not_eq_true, beq_eq_false_iff_ne] at *); first | assumption | omega))) ?_; walk_say "PRUNED mine") | (refine ite_neg (by (law_purse 40000 => (law_clear; (try law_fm); (try simp only [beq_iff_eq, bne_iff_ne, ne_eq, decide_eq_true_eq, decide_eq_false_iff_not, Bool.and_eq_true, Bool.or_eq_true, Bool.not_eq_true', Bool.not_eq_false', Bool.not_eq_true, beq_eq_false_iff_ne] at *); first | assumption | omega))) ?_; walk_say "PRUNED mine"))
  k_with "binaryOp FloorDiv int int" => (k_here; refine' Mine.fdiv_as ?Zq_hq ?Zq_hb ?_ ?Zq_hp; (case Zq_hq => with_reducible assumption); (case Zq_hb => decide); (case Zq_hp => exact Or.inl (PyProof.noPylong_of_log2 (by decide +kernel))); k_whole)
  k_with "binaryOp Mod int int" => (k_here; refine' Mine.fmod_as ?Zq_hq ?Zq_hb ?_; (case Zq_hq => with_reducible assumption); (case Zq_hb => decide); k_whole)
  k_with "binaryOp Add int int" => (k_here; refine' Mine.add_as ?Zq_hq ?_; (case Zq_hq => with_reducible assumption); k_whole)
  k_with "binaryOp Sub int int" => (k_here; refine' Mine.sub_as ?Zq_hq ?_; (case Zq_hq => with_reducible assumption); k_whole)
  k_with "JInt" => first | (refine Mine.jint_stored ?Zq_e (by k_asm) (by first | k_asm | (refine' cb_drop ?Zq_cbN ?Zq_cbS; (case Zq_cbN => assumption); (case Zq_cbS => kcj_all))); (case Zq_e => first | rfl | assumption | (walk_at "mine_eq"))) | (refine Mine.jint_kept ?Zq_e rfl (by k_asm) (by first | k_asm | (refine' cb_drop ?Zq_cbN ?Zq_cbS; (case Zq_cbN => assumption); (case Zq_cbS => kcj_all))); (case Zq_e => first | rfl | assumption | (walk_at "mine_eq")))
  k_with "JSame" => (refine Mine.jsame_end (by k_asm) (by first | k_asm | (refine' cb_drop ?Zq_cbN ?Zq_cbS; (case Zq_cbN => assumption); (case Zq_cbS => kcj_all))))
  k_with "call ref" => (k_here; (with_reducible show wpAny _ _ (call (Value.ref 73) _) _ _ _); k_dflt (refine' Mine.useCl (Mine.c_jleap _ _ _ _ ) ?Zq_k1 ?Zq_k2 ?Zq_k3 ?Zq_k4 ?Zq_k5 ?Zq_kK ?Zq_kd ?Zq_ku ?_; (case Zq_k1 => k_asm); (case Zq_k2 => k_asm); (case Zq_k3 => k_asm); (case Zq_k4 => k_asm); (case Zq_k5 => k_asm); (case Zq_kK => first | exact rfl | assumption); (case Zq_kd => ktr_room); (case Zq_ku => ktr_units);  k_whole; dsimp only [Mine.RetV]; intro t9 h9 tk9 F9 N9); (try k_sweep); (try k_fold))
  k_with "compareOp In int ref" => (k_here; (with_reducible show wpAny _ _ (compareOp CmpOp.In (Value.int _ _) (Value.ref _)) _ _ _); k_dflt (refine' Mine.in_K _ ?Zq_F ?Zq_X ?Zq_l ?Zq_i rfl ?_; (case Zq_F => k_asm); (case Zq_X => k_asm); (case Zq_l => k_is); (case Zq_i => l_intsW); k_whole))
  k_with "exec If Compare cons cons" => (k_here; (with_reducible show wpAny _ _ (exec (Stmt.If (Expr.Compare (Expr.Name (Str.ofString "month") _) [CmpOp.Eq] _ _) _ _ _) _) _ _ _); (fail_if_success (have hJ9 : Mine.Joined "daysinmonth" := by assumption)); k_dflt (refine' Mine.joinInt (x := "daysinmonth") ?Zq_hn ?Zq_F ?Zq_N ?_ ?_; (case Zq_hn => assumption); (case Zq_F => k_asm); (case Zq_N => k_asm); k_whole); rotate_left; (intro h9 tk9 t9 F9 N9; (try k_sweep)); rotate_right; (have hJ9 := Mine.Joined.mk (x := "daysinmonth"); try k_fold))
  k_with "mine_eq" => first | exact Mine.len_a (by with_reducible assumption) (by with_reducible assumption) | exact Mine.len_b (by with_reducible assumption) (by with_reducible assumption) | exact Mine.len_c (by with_reducible assumption) (by with_reducible assumption) | exact Mine.len_d (by with_reducible assumption) (by with_reducible assumption)
  k_with "call ref" => (k_here; (with_reducible show wpAny _ _ (call (Value.ref 80) _) _ _ _); k_dflt (refine' Mine.useCl (Mine.c_jlen _ _ _ _ _ _ ) ?Zq_k1 ?Zq_k2 ?Zq_k3 ?Zq_k4 ?Zq_k5 ?Zq_kK ?Zq_kd ?Zq_ku ?_; (case Zq_k1 => k_asm); (case Zq_k2 => k_asm); (case Zq_k3 => k_asm); (case Zq_k4 => k_asm); (case Zq_k5 => k_asm); (case Zq_kK => first | exact rfl | assumption); (case Zq_kd => ktr_room); (case Zq_ku => ktr_units);  k_whole; dsimp only [Mine.RetV]; intro t9 h9 tk9 F9 N9); (try k_sweep); (try k_fold))
  k_with "call ref" => (k_here; (with_reducible show wpAny _ _ (call (Value.ref 87) _) _ _ _); k_dflt (refine' Mine.useCl (Mine.c_jlegal _ _ _ _ _ _ _ _ ?Zq_p0 ?Zq_p1) ?Zq_k1 ?Zq_k2 ?Zq_k3 ?Zq_k4 ?Zq_k5 ?Zq_kK ?Zq_kd ?Zq_ku ?_; (case Zq_k1 => k_asm); (case Zq_k2 => k_asm); (case Zq_k3 => k_asm); (case Zq_k4 => k_asm); (case Zq_k5 => k_asm); (case Zq_kK => first | exact rfl | assumption); (case Zq_kd => ktr_room); (case Zq_ku => ktr_units); (case Zq_p0 => (first | assumption | omega | decide | (walk_at "mine_fact"))); (case Zq_p1 => (first | assumption | omega | decide | (walk_at "mine_fact"))); k_whole; dsimp only [Mine.RetV]; intro t9 h9 tk9 F9 N9); (try k_sweep); (try k_fold))
  k_fill
  intro loose mean mg mb dp un gd cn cs a ccd cl outer A₀ base h₀ L mm s Q E B F X N T hk hdp hu hret
  refine wpAny_call ?_
  k_dflt cell_enter
  k_steps
  all_goals refine cb_retI hret ?_ (by k_asm) (by k_asm)
  · exact jto_lo hm (by assumption)
  · exact jto_hi (by assumption) hm'
/-- gives back a Julian date of the day j -/
def RetJ (news : List (Addr × Obj)) (j : Int) (h₀ : Heap) (L : Addr) (m : Str → Option Value) (s : Shared) (Q : Value → Shared → Prop) : Prop :=
  ∀ y m' d : Int, 1 ≤ m' → m' ≤ 12 → 0 < d → d ≤ mlen (jLeap y) m' → jan1j y + cum (jLeap y) m' + d - 1 = j → RetT3 news y m' d h₀ L m s Q
set_option maxRecDepth 100000 in
set_option maxHeartbeats 8000000 in
theorem c_jfrom (w : World) (news : List (Addr × Obj)) (j : Int) (t : Tok) : Cl w 94 8 80 news [.int j t] (RetJ news j) := by
  obtain ⟨c, dd, e, y, m, d, e1, e2, e3, e4, e5, e6, f1, f2, f3, f4, f5⟩ := jfrom_math j
  have n1 : Named "year" y := ⟨⟩
  have n2 : Named "month" m := ⟨⟩
  unfold Cl
  w_top off
  k_with_none
  k_with "eval Call Name cons nil" => (k_here; (fail_if_success (with_reducible show wpAny _ _ (eval (Expr.Call (Expr.Name (Str.ofString "range") _) _ _ _) _) _ _ _)); refine Call_ ?_)
  k_with "compareOp In int ref" => (k_here; (with_reducible show wpAny _ _ (compareOp CmpOp.In (Value.int _ _) (Value.ref _)) _ _ _); k_dflt (first | (refine' Mine.in_K true ?Zq_F ?Zq_X ?Zq_l ?Zq_i ?Zq_b ?_; (case Zq_F => k_asm); (case Zq_X => k_asm); (case Zq_l => k_is); (case Zq_i => l_intsW); (case Zq_b => first | decide | (simp; omega)); k_whole) | (refine' Mine.in_K false ?Zq_F ?Zq_X ?Zq_l ?Zq_i ?Zq_b ?_; (case Zq_F => k_asm); (case Zq_X => k_asm); (case Zq_l => k_is); (case Zq_i => l_intsW); (case Zq_b => first | decide | (simp; omega)); k_whole)))
  k_with "ite" => (k_here; k_openite; first | (refine ite_pos (by with_reducible assumption) ?_; walk_say "PRUNED mine") | (refine ite_neg (by with_reducible assumption) ?_; walk_say "PRUNED mine") | (refine ite_pos (by (law_purse 40000 => (law_clear; (try law_fm); (try simp only [beq_iff_eq, bne_iff_ne, ne_eq, decide_eq_true_eq, decide_eq_false_iff_not, Bool.and_eq_true, Bool.or_eq_true, Bool.not_eq_true', Bool.not_eq_false', Bool.not_eq_true, beq_eq_false_iff_ne] at *); first | assumption | omega))) ?_; walk_say "PRUNED mine") | (refine ite_neg (by (law_purse 40000 => (law_clear; (try law_fm); (try simp only [beq_iff_eq, bne_iff_ne, ne_eq, decide_eq_true_eq, decide_eq_false_iff_not, Bool.and_eq_true, Bool.or_eq_true, Bool.not_eq_true', Bool.not_eq_false', Bool.not_eq_true, beq_eq_false_iff_ne] at *); first | assumption | omega))) ?_; walk_say "PRUNED mine"))
  k_with "binaryOp FloorDiv int int" => (k_here; refine' Mine.fdiv_as ?Zq_hq ?Zq_hb ?_ ?Zq_hp; (case Zq_hq => with_reducible assumption); (case Zq_hb => decide); (case Zq_hp => exact Or.inl (PyProof.noPylong_of_log2 (by decide +kernel))); k_whole)
  k_with "binaryOp Mod int int" => (k_here; refine' Mine.fmod_as ?Zq_hq ?Zq_hb ?_; (case Zq_hq => with_reducible assumption); (case Zq_hb => decide); k_whole)
  k_with "binaryOp Add int int" => (k_here; refine' Mine.add_as ?Zq_hq ?_; (case Zq_hq => with_reducible assumption); k_whole)
  k_with "binaryOp Sub int int" => (k_here; refine' Mine.sub_as ?Zq_hq ?_; (case Zq_hq => with_reducible assumption); k_whole)
  k_with "JInt" => first | (refine Mine.jint_stored ?Zq_e (by k_asm) (by first | k_asm | (refine' cb_drop ?Zq_cbN ?Zq_cbS; (case Zq_cbN => assumption); (case Zq_cbS => kcj_all))); (case Zq_e => first | rfl | assumption | (walk_at "mine_eq"))) | (refine Mine.jint_kept ?Zq_e rfl (by k_asm) (by first | k_asm | (refine' cb_drop ?Zq_cbN ?Zq_cbS; (case Zq_cbN => assumption); (case Zq_cbS => kcj_all))); (case Zq_e => first | rfl | assumption | (walk_at "mine_eq")))
  k_with "JSame" => (refine Mine.jsame_end (by k_asm) (by first | k_asm | (refine' cb_drop ?Zq_cbN ?Zq_cbS; (case Zq_cbN => assumption); (case Zq_cbS => kcj_all))))
  k_with "call ref" => (k_here; (with_reducible show wpAny _ _ (call (Value.ref 73) _) _ _ _); k_dflt (refine' Mine.useCl (Mine.c_jleap _ _ _ _ ) ?Zq_k1 ?Zq_k2 ?Zq_k3 ?Zq_k4 ?Zq_k5 ?Zq_kK ?Zq_kd ?Zq_ku ?_; (case Zq_k1 => k_asm); (case Zq_k2 => k_asm); (case Zq_k3 => k_asm); (case Zq_k4 => k_asm); (case Zq_k5 => k_asm); (case Zq_kK => first | exact rfl | assumption); (case Zq_kd => ktr_room); (case Zq_ku => ktr_units);  k_whole; dsimp only [Mine.RetV]; intro t9 h9 tk9 F9 N9); (try k_sweep); (try k_fold))
  k_with "compareOp In int ref" => (k_here; (with_reducible show wpAny _ _ (compareOp CmpOp.In (Value.int _ _) (Value.ref _)) _ _ _); k_dflt (refine' Mine.in_K _ ?Zq_F ?Zq_X ?Zq_l ?Zq_i rfl ?_; (case Zq_F => k_asm); (case Zq_X => k_asm); (case Zq_l => k_is); (case Zq_i => l_intsW); k_whole))
  k_with "exec If Compare cons cons" => (k_here; (with_reducible show wpAny _ _ (exec (Stmt.If (Expr.Compare (Expr.Name (Str.ofString "month") _) [CmpOp.Eq] _ _) _ _ _) _) _ _ _); (fail_if_success (have hJ9 : Mine.Joined "daysinmonth" := by assumption)); k_dflt (refine' Mine.joinInt (x := "daysinmonth") ?Zq_hn ?Zq_F ?Zq_N ?_ ?_; (case Zq_hn => assumption); (case Zq_F => k_asm); (case Zq_N => k_asm); k_whole); rotate_left; (intro h9 tk9 t9 F9 N9; (try k_sweep)); rotate_right; (have hJ9 := Mine.Joined.mk (x := "daysinmonth"); try k_fold))
  k_with "mine_eq" => first | exact Mine.len_a (by with_reducible assumption) (by with_reducible assumption) | exact Mine.len_b (by with_reducible assumption) (by with_reducible assumption) | exact Mine.len_c (by with_reducible assumption) (by with_reducible assumption) | exact Mine.len_d (by with_reducible assumption) (by with_reducible assumption)
  k_with "call ref" => (k_here; (with_reducible show wpAny _ _ (call (Value.ref 80) _) _ _ _); k_dflt (refine' Mine.useCl (Mine.c_jlen _ _ _ _ _ _ ) ?Zq_k1 ?Zq_k2 ?Zq_k3 ?Zq_k4 ?Zq_k5 ?Zq_kK ?Zq_kd ?Zq_ku ?_; (case Zq_k1 => k_asm); (case Zq_k2 => k_asm); (case Zq_k3 => k_asm); (case Zq_k4 => k_asm); (case Zq_k5 => k_asm); (case Zq_kK => first | exact rfl | assumption); (case Zq_kd => ktr_room); (case Zq_ku => ktr_units);  k_whole; dsimp only [Mine.RetV]; intro t9 h9 tk9 F9 N9); (try k_sweep); (try k_fold))
  k_with "call ref" => (k_here; (with_reducible show wpAny _ _ (call (Value.ref 87) _) _ _ _); k_dflt (refine' Mine.useCl (Mine.c_jlegal _ _ _ _ _ _ _ _ ?Zq_p0 ?Zq_p1) ?Zq_k1 ?Zq_k2 ?Zq_k3 ?Zq_k4 ?Zq_k5 ?Zq_kK ?Zq_kd ?Zq_ku ?_; (case Zq_k1 => k_asm); (case Zq_k2 => k_asm); (case Zq_k3 => k_asm); (case Zq_k4 => k_asm); (case Zq_k5 => k_asm); (case Zq_kK => first | exact rfl | assumption); (case Zq_kd => ktr_room); (case Zq_ku => ktr_units); (case Zq_p0 => (first | assumption | omega | decide | (walk_at "mine_fact"))); (case Zq_p1 => (first | assumption | omega | decide | (walk_at "mine_fact"))); k_whole; dsimp only [Mine.RetV]; intro t9 h9 tk9 F9 N9); (try k_sweep); (try k_fold))
  k_with "exec If" => (k_here; (with_reducible show wpAny _ _ (exec (Stmt.If (Expr.Compare (Expr.Name (Str.ofString "e") _) _ _ _) _ _ _) _) _ _ _); (fail_if_success (with_reducible show wpAny _ _ _ (Mine.JInt _ _ _ _ _ _ _) _ _)); refine' Mine.joinInt (x := "month") ?Zq_hn ?Zq_F ?Zq_N ?_ ?_; (case Zq_hn => assumption); (case Zq_F => k_asm); (case Zq_N => k_asm); k_whole; rotate_left; (intro h9 tk9 t9 F9 N9; (try k_sweep)); rotate_right; (try k_fold))
  k_with "exec If" => (k_here; (with_reducible show wpAny _ _ (exec (Stmt.If (Expr.Compare (Expr.Name (Str.ofString "month") _) _ _ _) _ _ _) _) _ _ _); (fail_if_success (with_reducible show wpAny _ _ _ (Mine.JInt _ _ _ _ _ _ _) _ _)); refine' Mine.joinInt (x := "year") ?Zq_hn ?Zq_F ?Zq_N ?_ ?_; (case Zq_hn => assumption); (case Zq_F => k_asm); (case Zq_N => k_asm); k_whole; rotate_left; (intro h9 tk9 t9 F9 N9; (try k_sweep)); rotate_right; (try k_fold))
  k_with "mine_eq" => (law_purse 40000 => (law_clear; omega))
  k_fill
  intro loose mean mg mb dp un gd cn cs a ccd cl outer A₀ base h₀ L mm s Q E B F X N T hk hdp hu hret
  have hret := hret y m d f1 f2 f3 f4 f5
  clear f1 f2 f3 f4 f5
  refine wpAny_call ?_
  k_dflt cell_enter
  k_steps
  all_goals refine ret3_end hret (by k_asm) (by k_asm) (by k_asm) ?_ rfl rfl
  all_goals (law_clear; omega)
end Mine

end

section
open PySem PySem.W PyProof.Rows PySem.Spec PySem.Calls
namespace Mine

set_option maxRecDepth 100000 in
set_option maxHeartbeats 8000000 in
theorem c_monthrange (w : World) (news : List (Addr × Obj)) (y m : Int) (t u : Tok) (hm : 1 ≤ m) (hm' : m ≤ 12) : Cl w 29 8 80 news [.int y t, .int m u] (RetT2 news ((jan1 y + cum (isLeap y) m).fmod 7) (mlen (isLeap y) m)) := by
  obtain ⟨j0, v, e1, e2, e3⟩ := mr_facts (y := y) hm hm'
  obtain ⟨q1, q2, q3⟩ := mr_len (y := y) hm hm'
  have n1 : Named "first" v := ⟨⟩
  unfold Cl
  w_top off
  k_with_none
  k_with "eval Call Name cons nil" => (k_here; (fail_if_success (with_reducible show wpAny _ _ (eval (Expr.Call (Expr.Name (Str.ofString "range") _) _ _ _) _) _ _ _)); refine Call_ ?_)
  k_with "compareOp In int ref" => (k_here; (with_reducible show wpAny _ _ (compareOp CmpOp.In (Value.int _ _) (Value.ref _)) _ _ _); k_dflt (first | (refine' Mine.in_K true ?Zq_F ?Zq_X ?Zq_l ?Zq_i ?Zq_b ?_; (case Zq_F => k_asm); (case Zq_X => k_asm); (case Zq_l => k_is); (case Zq_i => l_intsW); (case Zq_b => first | decide | (simp; omega)); k_whole) | (refine' Mine.in_K false ?Zq_F ?Zq_X ?Zq_l ?Zq_i ?Zq_b ?_; (case Zq_F => k_asm); (case Zq_X => k_asm); (case Zq_l => k_is); (case Zq_i => l_intsW); (case Zq_b => first | decide | (simp; omega)); k_whole)))
  k_with "ite" => (k_here; k_openite; first | (refine ite_pos (by with_reducible assumption) ?_; walk_say "PRUNED mine") | (refine ite_neg (by with_reducible assumption) ?_; walk_say "PRUNED mine") | (refine ite_pos (by (law_purse 40000 => (law_clear; (try law_fm); (try simp only [beq_iff_eq, bne_iff_ne, ne_eq, decide_eq_true_eq, decide_eq_false_iff_not, Bool.and_eq_true, Bool.or_eq_true, Bool.not_eq_true', Bool.not_eq_false', Bool.not_eq_true, beq_eq_false_iff_ne] at *); first | assumption | omega))) ?_; walk_say "PRUNED mine") | (refine ite_neg (by (law_purse 40000 => (law_clear; (try law_fm); (try simp only [beq_iff_eq, bne_iff_ne, ne_eq, decide_eq_true_eq, decide_eq_false_iff_not, Bool.and_eq_true, Bool.or_eq_true, Bool.not_eq_true', Bool.not_eq_false', Bool.not_eq_true, beq_eq_false_iff_ne] at *); first | assumption | omega))) ?_; walk_say "PRUNED mine"))
  k_with "binaryOp FloorDiv int int" => (k_here; refine' Mine.fdiv_as ?Zq_hq ?Zq_hb ?_ ?Zq_hp; (case Zq_hq => with_reducible assumption); (case Zq_hb => decide); (case Zq_hp => exact Or.inl (PyProof.noPylong_of_log2 (by decide +kernel))); k_whole)
  k_with "binaryOp Mod int int" => (k_here; refine' Mine.fmod_as ?Zq_hq ?Zq_hb ?_; (case Zq_hq => with_reducible assumption); (case Zq_hb => decide); k_whole)
  k_with "binaryOp Add int int" => (k_here; refine' Mine.add_as ?Zq_hq ?_; (case Zq_hq => with_reducible assumption); k_whole)
  k_with "binaryOp Sub int int" => (k_here; refine' Mine.sub_as ?Zq_hq ?_; (case Zq_hq => with_reducible assumption); k_whole)
  k_with "JInt" => first | (refine Mine.jint_stored ?Zq_e (by k_asm) (by first | k_asm | (refine' cb_drop ?Zq_cbN ?Zq_cbS; (case Zq_cbN => assumption); (case Zq_cbS => kcj_all))); (case Zq_e => first | rfl | assumption | (walk_at "mine_eq"))) | (refine Mine.jint_kept ?Zq_e rfl (by k_asm) (by first | k_asm | (refine' cb_drop ?Zq_cbN ?Zq_cbS; (case Zq_cbN => assumption); (case Zq_cbS => kcj_all))); (case Zq_e => first | rfl | assumption | (walk_at "mine_eq")))
  k_with "JSame" => (refine Mine.jsame_end (by k_asm) (by first | k_asm | (refine' cb_drop ?Zq_cbN ?Zq_cbS; (case Zq_cbN => assumption); (case Zq_cbS => kcj_all))))
  k_with "call ref" => (k_here; (with_reducible show wpAny _ _ (call (Value.ref 22) _) _ _ _); k_dflt (refine' Mine.useCl (Mine.c_isleap _ _ _ _ ) ?Zq_k1 ?Zq_k2 ?Zq_k3 ?Zq_k4 ?Zq_k5 ?Zq_kK ?Zq_kd ?Zq_ku ?_; (case Zq_k1 => k_asm); (case Zq_k2 => k_asm); (case Zq_k3 => k_asm); (case Zq_k4 => k_asm); (case Zq_k5 => k_asm); (case Zq_kK => first | exact rfl | assumption); (case Zq_kd => ktr_room); (case Zq_ku => ktr_units);  k_whole; dsimp only [Mine.RetV]; intro t9 h9 tk9 F9 N9); (try k_sweep); (try k_fold))
  k_with "subscriptTail Name Slice ref ref" => (k_here; (with_reducible show wpAny _ _ (subscriptTail _ (PySem.Expr.Slice none _ none _) (Value.ref _) (Value.ref _)) _ _ _); k_dflt (refine' Mine.slice_tupK ?Zq_F ?Zq_N ?Zq_X ?Zq_l ?Zq_k ?Zq_b ?Zq_z ?_ ?Zq_s ?Zq_g; (case Zq_F => k_asm); (case Zq_N => k_asm); (case Zq_X => k_asm); (case Zq_l => k_is); (case Zq_k => omega); (case Zq_b => (simp only [List.length_cons, List.length_nil]; omega)); (case Zq_z => decide); (case Zq_s => with_unfolding_all rfl); (case Zq_g => kmk_pure); k_whole); intro D' h' F' N' l1; (try k_sweep))
  k_with "subscriptTail Name Name ref int" => (k_here; (with_reducible show wpAny _ _ (subscriptTail _ _ (Value.ref _) (Value.int _ _)) _ _ _); k_dflt (refine' Mine.item_tupK ?Zq_F ?Zq_X ?Zq_l ?Zq_i ?Zq_k ?Zq_b ?Zq_z ?_ ?Zq_s ?Zq_g; (case Zq_F => k_asm); (case Zq_X => k_asm); (case Zq_l => k_is); (case Zq_i => l_intsW); (case Zq_k => omega); (case Zq_b => (simp only [List.length_cons, List.length_nil]; omega)); (case Zq_z => omega); (case Zq_s => with_unfolding_all rfl); (case Zq_g => kmk_pure); k_whole); intro t9)
  k_with "exec For Name Subscript cons nil" => (k_here; (rename Fr _ _ _ _ => lF'); (with_unfolding_all refine' For_invVF lF' ?Zq_k1 ?Zq_k2 ?_; (case Zq_k1 => exact rfl); (case Zq_k2 => exact rfl); k_whole))
  k_with "pyIter ref" => (k_here; k_dflt (refine' Mine.iter_tup_sum (y := Str.ofString "first") ?Zq_hh ?Zq_F ?Zq_N ?Zq_lt ?Zq_i ?Zq_hy ?_ ?_; (case Zq_hh => exact rfl); (case Zq_F => k_asm); (case Zq_N => k_asm); (case Zq_lt => k_asm); (case Zq_i => exact IntsAre.take (by l_intsW) _); (case Zq_hy => exact rfl); k_whole); rotate_left; (intro u9 t9 h9 tk9 F9 N9; (try k_sweep)); rotate_right; (intro n9 t9 a9 ta9 h9 tk9 own9 F9 N9; (try k_fold)))
  k_with "JTurn" => (refine ⟨rfl, _, _, _, _, rfl, by k_asm, by k_asm, rfl, ?_⟩; intro z hz1 hz2; simp only [if_neg hz1, if_neg hz2])
  k_with "mine_eq" => first | exact Mine.MrFacts.h1 (by with_reducible assumption) (by with_reducible assumption) (by with_reducible assumption) | exact Mine.MrFacts.h2 (by with_reducible assumption) (by with_reducible assumption) | exact Mine.MrFacts.h3 (by with_reducible assumption) (by with_reducible assumption)
  k_with "exec If BoolOp cons nil" => (k_here; (fail_if_success (with_reducible show wpAny _ _ _ (Mine.JInt _ _ _ _ _ _ _) _ _)); refine' Mine.joinInt (x := "first") ?Zq_hn ?Zq_F ?Zq_N ?_ ?_; (case Zq_hn => assumption); (case Zq_F => k_asm); (case Zq_N => k_asm); k_whole; rotate_left; (intro h9 tk9 t9 F9 N9; (try k_sweep)); rotate_right; (try k_fold))
  k_fill
  intro loose mean mg mb dp un gd cn cs a ccd cl outer A₀ base h₀ L mm s Q E B F X N T hk hdp hu hret
  refine wpAny_call ?_
  k_dflt cell_enter
  k_steps
  all_goals refine ret2_end hret (by k_asm) (by k_asm) (by k_asm) rfl ?_
  all_goals first | exact q1 (by assumption) (by assumption) | exact q2 (by assumption) | exact q3 (by assumption)
end Mine

end

section
open PySem PySem.W PyProof.Rows PySem.Spec PySem.Calls
namespace Mine

local macro_rules | `(tactic| k_room) => `(tactic| ktr_room)
/-- the claim for a call from the law's own frame -/
def Cl0 (w : World) (f : Addr) (dn : Nat) (news : List (Addr × Obj)) (vs : List Value)
    (Ret : Heap → Addr → (Str → Option Value) → Shared → (Value → Shared → Prop) → Prop) : Prop :=
  ∀ (loose : List Str) (mean : ExcName → Option Value) (mg mb : Str → Option Value)
    (dp un : Nat) (gd : Option (List Code)) (cn : Str) (cs : Scope) (a : Addr) (ccd : Value) (A₀ : Around) (base h₀ : Heap) (L : Addr) (m : Str → Option Value) (s : Shared) (Q E : Value → Shared → Prop),
    Below A₀ base [] h₀ → Fr h₀ L s.heap m → (hd.heap_39 w.params).In h₀ → News h₀ L s.heap news → Top hd.view_39 loose mean mg mb h₀ → (hd.heap_39 w.params).In base → Top hd.view_39 loose mean mg mb base → cs.kind = .function →
    dp + dn < recursionLimit → un + 200 < cLine → Ret h₀ L m s Q →
      wpAny (model PySem.Challenge.rw_ah0016_01.row.prog w) (ktrTop dp un gd cn cs L a ccd [] []) (call (.ref f) vs) Q E s
set_option maxRecDepth 100000 in
set_option maxHeartbeats 8000000 in
theorem c_refused (w : World) (rest : List (Addr × Obj)) (D x dx : Addr) (y m d ep way : Int) (t1 t2 t3 t4 t5 t6 : Tok) (n : Nat) (hm : 1 ≤ m) (hm' : m ≤ 12) (hd0 : 0 ≤ d) (hd1 : d ≤ 32) (hbad : d ≤ 0 ∨ mlen (isLeap y) m < d) :
    Cl0 w 185 12 ((D, ({ cls := .type "tuple", data := .seq #[.int y t1, .int m t2, .int d t3] n } : Obj)) :: (x, instObj 160 dx) :: (dx, dictOf [{ hash := PyData.keyHash w.params (Str.ofString "epoch"), key := Value.str (Str.ofString "epoch") t4, val := Value.int ep t5 }] 1) :: rest) [.int way t6, .ref x, .ref D] (RetV ((D, ({ cls := .type "tuple", data := .seq #[.int y t1, .int m t2, .int d t3] n } : Obj)) :: (x, instObj 160 dx) :: (dx, dictOf [{ hash := PyData.keyHash w.params (Str.ofString "epoch"), key := Value.str (Str.ofString "epoch") t4, val := Value.int ep t5 }] 1) :: rest) (fun _ => .bool true)) := by
  have n1 : Named "daysinmonth" (mlen (isLeap y) m) := ⟨⟩
  unfold Cl0 RetV
  w_top off
  k_with_none
  k_with "eval Call Name cons nil" => (k_here; (fail_if_success (with_reducible show wpAny _ _ (eval (Expr.Call (Expr.Name (Str.ofString "range") _) _ _ _) _) _ _ _)); refine Call_ ?_)
  k_with "compareOp In int ref" => (k_here; (with_reducible show wpAny _ _ (compareOp CmpOp.In (Value.int _ _) (Value.ref _)) _ _ _); k_dflt (first | (refine' Mine.in_K true ?Zq_F ?Zq_X ?Zq_l ?Zq_i ?Zq_b ?_; (case Zq_F => k_asm); (case Zq_X => k_asm); (case Zq_l => k_is); (case Zq_i => l_intsW); (case Zq_b => first | decide | (simp; omega)); k_whole) | (refine' Mine.in_K false ?Zq_F ?Zq_X ?Zq_l ?Zq_i ?Zq_b ?_; (case Zq_F => k_asm); (case Zq_X => k_asm); (case Zq_l => k_is); (case Zq_i => l_intsW); (case Zq_b => first | decide | (simp; omega)); k_whole)))
  k_with "ite" => (k_here; k_openite; first | (refine ite_pos (by with_reducible assumption) ?_; walk_say "PRUNED mine") | (refine ite_neg (by with_reducible assumption) ?_; walk_say "PRUNED mine") | (refine ite_pos (by (law_purse 40000 => (law_clear; (try law_fm); (try simp only [beq_iff_eq, bne_iff_ne, ne_eq, decide_eq_true_eq, decide_eq_false_iff_not, Bool.and_eq_true, Bool.or_eq_true, Bool.not_eq_true', Bool.not_eq_false', Bool.not_eq_true, beq_eq_false_iff_ne] at *); first | assumption | omega))) ?_; walk_say "PRUNED mine") | (refine ite_neg (by (law_purse 40000 => (law_clear; (try law_fm); (try simp only [beq_iff_eq, bne_iff_ne, ne_eq, decide_eq_true_eq, decide_eq_false_iff_not, Bool.and_eq_true, Bool.or_eq_true, Bool.not_eq_true', Bool.not_eq_false', Bool.not_eq_true, beq_eq_false_iff_ne] at *); first | assumption | omega))) ?_; walk_say "PRUNED mine"))
  k_with "binaryOp FloorDiv int int" => (k_here; refine' Mine.fdiv_as ?Zq_hq ?Zq_hb ?_ ?Zq_hp; (case Zq_hq => with_reducible assumption); (case Zq_hb => decide); (case Zq_hp => exact Or.inl (PyProof.noPylong_of_log2 (by decide +kernel))); k_whole)
  k_with "binaryOp Mod int int" => (k_here; refine' Mine.fmod_as ?Zq_hq ?Zq_hb ?_; (case Zq_hq => with_reducible assumption); (case Zq_hb => decide); k_whole)
  k_with "binaryOp Add int int" => (k_here; refine' Mine.add_as ?Zq_hq ?_; (case Zq_hq => with_reducible assumption); k_whole)
  k_with "binaryOp Sub int int" => (k_here; refine' Mine.sub_as ?Zq_hq ?_; (case Zq_hq => with_reducible assumption); k_whole)
  k_with "JInt" => first | (refine Mine.jint_stored ?Zq_e (by k_asm) (by first | k_asm | (refine' cb_drop ?Zq_cbN ?Zq_cbS; (case Zq_cbN => assumption); (case Zq_cbS => kcj_all))); (case Zq_e => first | rfl | assumption | (walk_at "mine_eq"))) | (refine Mine.jint_kept ?Zq_e rfl (by k_asm) (by first | k_asm | (refine' cb_drop ?Zq_cbN ?Zq_cbS; (case Zq_cbN => assumption); (case Zq_cbS => kcj_all))); (case Zq_e => first | rfl | assumption | (walk_at "mine_eq")))
  k_with "JSame" => (refine Mine.jsame_end (by k_asm) (by first | k_asm | (refine' cb_drop ?Zq_cbN ?Zq_cbS; (case Zq_cbN => assumption); (case Zq_cbS => kcj_all))))
  k_with "call ref" => (k_here; (with_reducible show wpAny _ _ (call (Value.ref 22) _) _ _ _); k_dflt (refine' Mine.useCl (Mine.c_isleap _ _ _ _ ) ?Zq_k1 ?Zq_k2 ?Zq_k3 ?Zq_k4 ?Zq_k5 ?Zq_kK ?Zq_kd ?Zq_ku ?_; (case Zq_k1 => k_asm); (case Zq_k2 => k_asm); (case Zq_k3 => k_asm); (case Zq_k4 => k_asm); (case Zq_k5 => k_asm); (case Zq_kK => first | exact rfl | assumption); (case Zq_kd => ktr_room); (case Zq_ku => ktr_units);  k_whole; dsimp only [Mine.RetV]; intro t9 h9 tk9 F9 N9); (try k_sweep); (try k_fold))
  k_with "eval Call Attribute cons nil" => (k_here; (with_reducible show wpAny _ _ (eval (Expr.Call (Expr.Attribute _ _ _) [Expr.Starred _ _] [] _) _) _ _ _); refine Mine.methodCall_star ?_)
  k_with "callWith ref" => (k_here; (with_reducible show wpAny _ _ (callWith _ (Value.ref _) _ (backTo _ (starEach [Expr.Starred _ _] _)) []) _ _ _); k_dflt (refine' Mine.callWith_MS ?Zq_k1 ?Zq_k2 ?Zq_k3 ?Zq_k4 ?_; (case Zq_k1 => k_asm); (case Zq_k2 => k_asm); (case Zq_k3 => k_mem); (case Zq_k4 => k_is); k_whole))
  k_with "compareOp In int ref" => (k_here; (with_reducible show wpAny _ _ (compareOp CmpOp.In (Value.int _ _) (Value.ref _)) _ _ _); k_dflt (refine' Mine.in_K _ ?Zq_F ?Zq_X ?Zq_l ?Zq_i rfl ?_; (case Zq_F => k_asm); (case Zq_X => k_asm); (case Zq_l => k_is); (case Zq_i => l_intsW); k_whole))
  k_with "exec If Compare cons cons" => (k_here; (with_reducible show wpAny _ _ (exec (Stmt.If (Expr.Compare (Expr.Name (Str.ofString "month") _) [CmpOp.Eq] _ _) _ _ _) _) _ _ _); (fail_if_success (have hJ9 : Mine.Joined "daysinmonth" := by assumption)); k_dflt (refine' Mine.joinInt (x := "daysinmonth") ?Zq_hn ?Zq_F ?Zq_N ?_ ?_; (case Zq_hn => assumption); (case Zq_F => k_asm); (case Zq_N => k_asm); k_whole); rotate_left; (intro h9 tk9 t9 F9 N9; (try k_sweep)); rotate_right; (have hJ9 := Mine.Joined.mk (x := "daysinmonth"); try k_fold))
  k_with "mine_eq" => first | exact Mine.len_a (by with_reducible assumption) (by with_reducible assumption) | exact Mine.len_b (by with_reducible assumption) (by with_reducible assumption) | exact Mine.len_c (by with_reducible assumption) (by with_reducible assumption) | exact Mine.len_d (by with_reducible assumption) (by with_reducible assumption)
  k_fill
  intro loose mean mg mb dp un gd cn cs a ccd A₀ base h₀ L mm s Q E B F X N T XB TB hk hdp hu hret
  refine wpAny_call ?_
  refine' code_defS0 ?k1 ?k2 ?k3 ?k4 ?k5 ?kA ?k6 ?k7 ?k8 ?k9 ?kB ?_ ?cK ?c2 ?c3 ?c4 ?c5
  case kA => exact rfl
  case k2 => k_asm
  case k1 => k_asm
  case k3 => k_asm
  case k4 => k_asm
  case k5 => k_asm
  case k6 => k_is
  case k7 => k_is
  case k8 => ktr_room
  case k9 => exact BindsTo.of_eq rfl
  case kB => exact locs rfl
  case cK => assumption
  case c2 => exact rfl
  case c3 => exact rfl
  case c4 => exact rfl
  case c5 => decide
  intro g' L' h' FG' F' N' B' X' T' D'
  (try dsimp only)
  (try k_lift B')
  (try k_fold)
  k_steps
  all_goals exact hret 0 _ _ (by k_asm) (by first | k_asm | exact cb_drop (by assumption) (fun p hp => List.mem_cons_of_mem _ hp) | (refine' cb_drop ?cbN ?cbS; (case cbN => assumption); (case cbS => kcj_all)))
end Mine

end

section
open PySem PySem.W PyProof.Rows PySem.Spec PySem.Calls
namespace Mine
structure DateOf (y m d : Int) : Prop where
  hm : 1 ≤ m
  hm' : m ≤ 12
  h0 : 0 < d
  h1 : d ≤ mlen (isLeap y) m
theorem c_to_jdD (w : World) (news : List (Addr × Obj)) (y m d : Int) (t u v : Tok) (h : DateOf y m d) : Cl w 58 6 60 news [.int y t, .int m u, .int d v] (RetV news (fun t => .int (jan1 y + cum (isLeap y) m + d - 1) t)) := c_to_jd w news y m d t u v h.h0 h.h1
theorem c_to_jd2D (w : World) (news : List (Addr × Obj)) (y m d : Int) (t u v : Tok) (h : DateOf y m d) : Cl w 51 6 60 news [.int y t, .int m u, .int d v] (RetV news (fun t => .int (jan1 y + cum (isLeap y) m + d - 1) t)) := c_to_jd2 w news y m d t u v h.h0 h.h1 h.hm h.hm'
theorem c_fromgD (w : World) (news : List (Addr × Obj)) (y m d : Int) (t u v : Tok) (h : DateOf y m d) : Cl w 178 8 80 news [.int y t, .int m u, .int d v] (RetT2 news y (cum (isLeap y) m + d)) := c_fromg w news y m d t u v h.h0 h.h1 h.hm h.hm'
theorem c_from_jdD (w : World) (news : List (Addr × Obj)) (y m d j : Int) (t : Tok) (h : DateOf y m d) (hj : j = jan1 y + cum (isLeap y) m + d - 1) : Cl w 65 8 80 news [.int j t] (RetT3 news y m d) := c_from_jd w news y m d j t h.hm h.hm' h.h0 h.h1 hj
section
variable {w : World} {news : List (Addr × Obj)} {D x dx : Addr} {y m d ep way : Int} {t1 t2 t3 t4 t5 t6 : Tok} {n : Nat} {loose : List Str} {mean : ExcName → Option Value} {mg mb : Str → Option Value}
    {dp un : Nat} {gd : Option (List Code)} {cn : Str} {cs : Scope} {a : Addr} {ccd : Value} {A₀ : Around} {base h₀ : Heap} {L : Addr} {mm : Str → Option Value} {s : Shared} {Q E : Value → Shared → Prop}
theorem use_refused (B : Below A₀ base [] h₀) (F : Fr h₀ L s.heap mm) (X : (hd.heap_39 w.params).In h₀) (N : News h₀ L s.heap news)
    (hD : (D, ({ cls := .type "tuple", data := .seq #[.int y t1, .int m t2, .int d t3] n } : Obj)) ∈ news) (hx : (x, instObj 160 dx) ∈ news) (hdx : (dx, dictOf [{ hash := PyData.keyHash w.params (Str.ofString "epoch"), key := Value.str (Str.ofString "epoch") t4, val := Value.int ep t5 }] 1) ∈ news)
    (T : Top hd.view_39 loose mean mg mb h₀) (XB : (hd.heap_39 w.params).In base) (TB : Top hd.view_39 loose mean mg mb base) (hk : cs.kind = .function)
    (hdp : dp + 12 < recursionLimit) (hu : un + 200 < cLine) (hm : 1 ≤ m) (hm' : m ≤ 12) (hbad : d = 0 ∨ d = mlen (isLeap y) m + 1)
    (ret : ∀ h' tk', Fr h₀ L h' mm → News h₀ L h' news → Q (.bool true) { s with heap := h', toks := tk' }) :
    wpAny (model PySem.Challenge.rw_ah0016_01.row.prog w) (ktrTop dp un gd cn cs L a ccd [] []) (call (.ref 185) [.int way t6, .ref x, .ref D]) Q E s := by
  have hlo := mlen_lo (isLeap y) m
  have hhi := mlen_hi (isLeap y) m
  refine c_refused w news D x dx y m d ep way t1 t2 t3 t4 t5 t6 n hm hm' (by omega) (by omega) (by omega) loose mean mg mb dp un gd cn cs a ccd A₀ base h₀ L mm s Q E B F X ?_ T XB TB hk hdp hu ?_
  · intro p hp
    rcases List.mem_cons.mp hp with rfl | hp
    · exact N _ hD
    rcases List.mem_cons.mp hp with rfl | hp
    · exact N _ hx
    rcases List.mem_cons.mp hp with rfl | hp
    · exact N _ hdx
    · exact N _ hp
  · intro t h' tk' F' N'
    exact ret h' tk' F' fun p hp => N' p (.tail _ (.tail _ (.tail _ hp)))
end
section
variable {prog : Program} {w : World} {A : Around} {E : Value → Shared → Prop} {s : Shared} {h₀ : Heap} {L l : Addr} {mm : Str → Option Value} {news : List (Addr × Obj)} {value slice : PySem.Expr} {vs : List Value} {k : Int} {u : Tok} {Q : Value → Shared → Prop} {lp : Bool}
theorem item_len (hl : s.heap.IsList l vs.toArray) (hi : IntsAre vs [31, mlen lp 2, 31, 30, 31, 30, 31, 31, 30, 31, 30, 31]) (h0 : 1 ≤ k) (h1 : k ≤ 12) (h : ∀ t, 28 ≤ mlen lp k → mlen lp k ≤ 31 → Q (.int (mlen lp k) t) s)
    (hs : subscripted slice false (.ref l) (.int (k - 1) u) = operate [.ref l, .int (k - 1) u] (getItem (.ref l) (.int (k - 1) u))) (hg : ∀ r, letTemporaryGo value (.ref l) r = pure ()) :
    wpAny (model prog w) A (subscriptTail value slice (.ref l) (.int (k - 1) u)) Q E s := by
  refine item_list_ints hl hi (by omega) (by simp; omega) (by omega) (fun t => ?_) hs hg
  rw [lengths_get lp h0 h1]
  exact h t (mlen_lo _ _) (mlen_hi _ _)
theorem item_any {ns : List Int} (hl : s.heap.IsList l vs.toArray) (hi : IntsAre vs ns) (h0 : 0 ≤ k) (h1 : k < (ns.length : Int)) (hfit : k < 2 ^ 63) (h : ∀ v t, Q (.int v t) s)
    (hs : subscripted slice false (.ref l) (.int k u) = operate [.ref l, .int k u] (getItem (.ref l) (.int k u))) (hg : ∀ r, letTemporaryGo value (.ref l) r = pure ()) :
    wpAny (model prog w) A (subscriptTail value slice (.ref l) (.int k u)) Q E s := item_list_ints hl hi h0 h1 hfit (fun t => h _ t) hs hg
theorem mod_any {a b : Int} {t u : Tok} (hb : 0 < b) (h : ∀ r, 0 ≤ r → r < b → Q (.int r s.toks) { s with toks := s.toks + 1 }) : wpAny (model prog w) A (binaryOp .Mod (.int a t) (.int b u)) Q E s :=
  mod_int' (by omega) (h _ (fmod_lo a hb) (fmod_hi a hb))
end
section
variable {M : Model} {A : Around} {E : Value → Shared → Prop} {s : Shared} {h₀ : Heap} {L : Addr} {m : Str → Option Value} {news : List (Addr × Obj)} {st : Stmt} {env : Env} {Q : Flow → Shared → Prop}
theorem joinSameJ (_F : Fr h₀ L s.heap m) (_N : News h₀ L s.heap news)
    (h1 : Joined "same" → wpAny M A (exec st env) (JSame h₀ L m news s) E s)
    (h2 : ∀ h' tk', Fr h₀ L h' m → News h₀ L h' news → Q .next { s with heap := h', toks := tk' }) : wpAny M A (exec st env) Q E s := joinSame _F _N (h1 ⟨⟩) h2
theorem withDate {y k d : Int} {t1 t2 t3 : Tok} {α : Type} {tr : Sem α} {R : α → Shared → Prop} (_F : Fr h₀ L s.heap m) (_e1 : m (Str.ofString "year") = some (.int y t1)) (_e2 : m (Str.ofString "month") = some (.int k t2)) (_e3 : m (Str.ofString "day") = some (.int d t3))
    (hm : 1 ≤ k) (hm' : k ≤ 12) (h0 : 0 < d) (h1 : d ≤ mlen (isLeap y) k) (h : DateOf y k d → wpAny M A tr R E s) : wpAny M A tr R E s := h ⟨hm, hm', h0, h1⟩
end
theorem walk_step {lp : Bool} {k wk : Int} {pre : List Int} (hk : k = 1 + (pre.length : Int)) (hlt : pre.length < 12) (hw : wk = cum lp (1 + (pre.length : Int))) : wk + mlen lp k = cum lp (1 + ((pre ++ [k]).length : Int)) := by
  subst hk
  rw [hw, cum_step lp (by omega) (by omega)]
  congr 1
  simp
  omega
theorem walk_start (lp : Bool) : 0 = cum lp (1 + (([] : List Int).length : Int)) := by cases lp <;> decide
end Mine

end

section
open PySem PySem.W PyProof.Rows PySem.Spec PySem.Calls
namespace Mine
section
variable {prog : Program} {w : World} {A : Around} {E : Value → Shared → Prop} {s : Shared} {env : Env} {h₀ : Heap} {x : Str} {body : List Stmt} {Q : Flow → Shared → Prop}
def JBody (h₀ : Heap) (L : Addr) (m₀ : Str → Option Value) (stored : List Str) (wn : Str) (need : List (Addr × Obj)) (s : Shared) (fl : Flow) (s' : Shared) : Prop :=
  fl = .next ∧ ∃ h' tk' m', s' = { s with heap := h', toks := tk' } ∧ Fr h₀ L h' m' ∧ News h₀ L h' need ∧ (∀ z, stored.contains z = false → m' z = m₀ z) ∧ ∃ v t, m' wn = some (.int v t)
theorem iter_days {l : Addr} {vs : List Value} {ns : List Int} {m₀ : Str → Option Value} {news : List (Addr × Obj)} {nn : Nat} {y k : Int} {t1 t2 : Tok} (stored : List Str) (hx : stored.contains x = true)
    (hh : A.handled = none) (F : Fr h₀ env.locals s.heap m₀) (N : News h₀ env.locals s.heap ((l, PySem.W.listOf vs.toArray nn) :: news)) (hlt : ∀ p ∈ news, p.1 < l) (hi : IntsAre vs ns)
    (_e1 : m₀ (Str.ofString "year") = some (.int y t1)) (_e2 : m₀ (Str.ofString "month") = some (.int k t2)) (hm : 1 ≤ k) (hm' : k ≤ 12) (hP : ∀ n ∈ ns, 0 < n ∧ n ≤ mlen (isLeap y) k) (wn : Str) (hnil : ns ≠ [])
    (turn : ∀ n t (u : Str → Option Value) h tk own, DateOf y k n → Fr h₀ env.locals h (fun z => if z = x then some (.int n t) else if stored.contains z then u z else m₀ z) → News h₀ env.locals h (news ++ own) →
      wpAny (model prog w) A (execs body env) (JBody h₀ env.locals m₀ stored wn (news ++ own) { s with heap := h, toks := tk }) E { s with heap := h, toks := tk })
    (done : ∀ (u : Str → Option Value) v t h tk, Fr h₀ env.locals h (fun z => if z = wn then some (.int v t) else if stored.contains z then u z else m₀ z) → News h₀ env.locals h news → Q .next { s with heap := h, toks := tk }) :
    wpAny (model prog w) A (pyIter (.ref l)) (fun it s₂ => LoopAtV prog w A h₀ env x body Q E it s₂) E s := by
  have hax := N _ (List.mem_cons_self ..)
  have hl : s.heap.IsList l vs.toArray := ⟨_, hax.1, rfl, nn, rfl⟩
  have hls : l < s.heap.objs.size := Heap.lt_size hax.1
  have hne : l ≠ s.heap.objs.size := Nat.ne_of_lt hls
  have N0 : News h₀ env.locals s.heap news := fun p hp => N p (.tail _ hp)
  have hlen : vs.toArray.size = ns.length := by simp [hi.length]
  refine wpAny_pyIter_list hl ?_
  have W := Walks.list (prog := prog) (w := w) hh s.heap.objs.size l hne vs.toArray
  rw [hlen] at W
  have em : ∀ (m₁ : Str → Option Value), (∀ z, stored.contains z = false → m₁ z = m₀ z) → (fun z => if stored.contains z then m₁ z else m₀ z) = m₁ := by
    intro m₁ h2
    funext z
    cases hz : stored.contains z with
    | true => simp
    | false => simp [h2 z hz]
  refine loop_invN (fun i m nx => nx = news ∧ (∀ z, stored.contains z = false → m z = m₀ z) ∧ (0 < i → ∃ v t, m wn = some (.int v t))) (W.bound) ?_ ?_ ?_ ?_ ⟨⟨_, Heap.get?_push_size _ rfl, rfl, rfl⟩, hl.at fun o e => Heap.get?_push_of_some _ e⟩ (F.push _) (fun p hp => ⟨Heap.get?_push_of_some _ (N0 p hp).1, (N0 p hp).2⟩) ⟨rfl, fun _ _ => rfl, fun h => absurd h (Nat.lt_irrefl _)⟩ ?_ ?_
  · intro hmm
    rcases List.mem_cons.mp hmm with e | hmm
    · exact absurd F.ns.lt (e ▸ Nat.lt_irrefl _)
    · exact hax.2.1 (List.mem_singleton.mp hmm).symm
  · intro b hb
    rw [List.mem_singleton.mp hb]
    exact next_is_new F
  · intro p hp hI
    exact absurd (Heap.lt_size (N0 p hp).1) ((List.mem_singleton.mp hI) ▸ Nat.lt_irrefl _)
  · intro p hp hI
    rcases List.mem_cons.mp hI with e | hI
    · exact absurd (Heap.lt_size (N0 p hp).1) (e ▸ Nat.lt_irrefl _)
    · exact absurd (hlt p hp) ((List.mem_singleton.mp hI) ▸ Nat.lt_irrefl _)
  · rintro i v m₁ nx h tk own hin hQ hadr hoff ⟨rfl, hm1, _⟩ F₁ N₁
    have hlt' : i < ns.length := hin
    obtain ⟨t, hxx⟩ := hi.get i ns[i] (by simp [hlt'])
    have hv : v = .int ns[i] t := by
      have hP' : vs[i]? = some v := by simpa using hQ.2
      rw [hxx] at hP'; exact (Option.some.inj hP').symm
    subst hv
    have hp := hP ns[i] (List.getElem_mem hlt')
    rw [← em m₁ hm1] at F₁
    refine wpAny_mono (turn ns[i] t m₁ h tk own ⟨hm, hm', hp.1, hp.2⟩ F₁ N₁) (fun f s₂ p => ?_) fun _ _ e => e
    obtain ⟨e, h', tk', m', e', F', N', h2, h3⟩ := p
    subst e; subst e'
    exact InvEndN.intro F' N' ⟨rfl, h2, fun _ => h3⟩ rfl (fun p hp => List.mem_append.mpr (.inl hp)) (fun p hp => List.mem_append.mpr (.inr hp))
  · rintro m₁ nx h tk ⟨rfl, hm1, hw⟩ F₁ N₁
    obtain ⟨v, t, hv⟩ := hw (List.length_pos_iff.mpr hnil)
    refine done m₁ v t h tk ?_ N₁
    have e : (fun z => if z = wn then some (Value.int v t) else if stored.contains z then m₁ z else m₀ z) = m₁ := by
      funext z
      by_cases hz : z = wn
      · rw [if_pos hz, hz, hv]
      · rw [if_neg hz]
        exact congrFun (em m₁ hm1) z
    rw [e]
    exact F₁
theorem jbody_end {h' : Heap} {L : Addr} {m₀ m' : Str → Option Value} {stored : List Str} {wn : Str} {need : List (Addr × Obj)} {tk' : Nat} (F : Fr h₀ L h' m') (N : News h₀ L h' need) (e : ∀ z, stored.contains z = false → m' z = m₀ z) (e2 : ∃ v t, m' wn = some (.int v t)) : JBody h₀ L m₀ stored wn need s .next { s with heap := h', toks := tk' } := ⟨rfl, h', tk', m', rfl, F, N, e, e2⟩
end
theorem eq_same {prog : Program} {w : World} {A : Around} {E : Value → Shared → Prop} {s : Shared} {a : Int} {t u : Tok} {Q : Value → Shared → Prop} (h : Q (.bool true) s) : wpAny (model prog w) A (compareOp .Eq (.int a t) (.int a u)) Q E s :=
  eq_int (by rw [beq_self_eq_true]; exact h)
theorem inv_end {Led : Int × Tok → List (Addr × Obj)} {ps : Int × Tok → List (Str × Value)} {Facts : Int × Tok → Prop} {x : Str} {stored : List Str} {m₀ : Str → Option Value} {P : List Int → Int × Tok → Prop} {pre : List Int} {h₀ : Heap} {L : Addr} {m' : Str → Option Value} {own news' : List (Addr × Obj)} {adr : List Addr} {s₁ : Shared} {h' : Heap} {tk : Nat} {v : Int} {t : Tok} (wn : Str)
    (F : Fr h₀ L h' m') (N : News h₀ L h' news') (hv : m' wn = some (.int v t)) (hps : ps (v, t) = [(wn, .int v t)]) (hn : ∀ p ∈ Led (v, t), p ∈ news') (ho : ∀ p ∈ own, p ∈ news') (ha : (Led (v, t)).map (·.1) = adr) (hf : Facts (v, t))
    (hr : ∀ z, z ≠ x → z ≠ wn → stored.contains z = false → m' z = m₀ z) (hp : P pre (v, t)) :
    InvEndN h₀ L (KstS Led ps Facts x stored m₀ P pre) own adr s₁ { s₁ with heap := h', toks := tk } := by
  refine kst_end (v, t) F N hn ho ha hf ?_ ?_ hp
  · rw [hps]
    intro p hp
    rcases List.mem_cons.mp hp with rfl | hp
    · exact hv
    · cases hp
  · intro z h1 h2 h3
    refine hr z h1 ?_ h3
    rw [hps] at h2
    exact h2 _ (List.mem_singleton.mpr rfl)
theorem names_off {z : Str} (h : [Str.ofString "length", Str.ofString "day", Str.ofString "date", Str.ofString "place", Str.ofString "n"].contains z = false) :
    [Str.ofString "day", Str.ofString "date", Str.ofString "place", Str.ofString "n"].contains z = false ∧ z ≠ Str.ofString "length" ∧ z ≠ Str.ofString "n" := by
  refine ⟨?_, fun e => by rw [e] at h; exact absurd h (by decide), fun e => by rw [e] at h; exact absurd h (by decide)⟩
  rw [List.contains_cons, Bool.or_eq_false_iff] at h
  exact h.2
theorem step_end {lp : Bool} {k : Int} {pre : List Int} (hk : k = 1 + (pre.length : Int)) (hlt : pre.length < 12) : cum lp k + mlen lp k = cum lp (1 + ((pre ++ [k]).length : Int)) :=
  walk_step hk hlt (by rw [hk])
theorem elder_or {y k : Int} (hm : 1 ≤ k) : (2 < k ∧ jan1j y + cum (jLeap y) k + 1 - 1 = jan1j y + cum (isLeap y) k + lateOf y) ∨ (k ≤ 2 ∧ jan1j y + cum (jLeap y) k + 1 - 1 = jan1j y + cum (isLeap y) k) := by
  have h := elder_month (y := y) hm
  by_cases h2 : 2 < k
  · rw [if_pos h2] at h
    exact .inl ⟨h2, h⟩
  · rw [if_neg h2] at h
    exact .inr ⟨by omega, by omega⟩
/-- the turn's facts in one: what has been walked is the days before the month -/
theorem turn_facts {α : Type} {M : Model} {A : Around} {E : Value → Shared → Prop} {tr : Sem α} {R : α → Shared → Prop} {s : Shared} {h₀ : Heap} {L : Addr} {m : Str → Option Value} {y k wk : Int} {t1 t2 : Tok} {pre : List Int}
    (_F : Fr h₀ L s.heap m) (_e1 : m (Str.ofString "year") = some (.int y t1)) (_e2 : m (Str.ofString "month") = some (.int k t2)) (hk : k = 1 + (pre.length : Int)) (hlt : pre.length < 12) (hw : wk = cum (isLeap y) (1 + (pre.length : Int)))
    (h : 1 ≤ k → k ≤ 12 → wk = cum (isLeap y) k → ((2 < k ∧ jan1j y + cum (jLeap y) k + 1 - 1 = jan1j y + cum (isLeap y) k + lateOf y) ∨ (k ≤ 2 ∧ jan1j y + cum (jLeap y) k + 1 - 1 = jan1j y + cum (isLeap y) k)) → wpAny M A tr R E s) : wpAny M A tr R E s :=
  h (by omega) (by omega) (by rw [hw, hk]) (elder_or (by omega))
end Mine

end

section
open PySem PySem.W PyProof.Rows
set_option maxRecDepth 100000 in
set_option maxHeartbeats 8000000 in
theorem PySem.Challenge.cw_ah0016_01_holds : PySem.Challenge.rw_ah0016_01.Holds := by
  refine Mine.hd ?_
  k_with_none
  k_with "eval Call Name cons nil" => (k_here; (fail_if_success (with_reducible show wpAny _ _ (eval (Expr.Call (Expr.Name (Str.ofString "range") _) _ _ _) _) _ _ _)); refine Call_ ?_)
  k_with "compareOp In int ref" => (k_here; (with_reducible show wpAny _ _ (compareOp CmpOp.In (Value.int _ _) (Value.ref _)) _ _ _); k_dflt (first | (refine' Mine.in_K true ?Zq_F ?Zq_X ?Zq_l ?Zq_i ?Zq_b ?_; (case Zq_F => k_asm); (case Zq_X => k_asm); (case Zq_l => k_is); (case Zq_i => l_intsW); (case Zq_b => first | decide | (simp; omega)); k_whole) | (refine' Mine.in_K false ?Zq_F ?Zq_X ?Zq_l ?Zq_i ?Zq_b ?_; (case Zq_F => k_asm); (case Zq_X => k_asm); (case Zq_l => k_is); (case Zq_i => l_intsW); (case Zq_b => first | decide | (simp; omega)); k_whole)))
  k_with "ite" => (k_here; k_openite; first | (refine ite_neg (by simp only [bne_self_eq_false, Bool.false_eq_true, not_false_eq_true]) ?_; walk_say "PRUNED mine") | (refine ite_pos (by with_reducible assumption) ?_; walk_say "PRUNED mine") | (refine ite_neg (by with_reducible assumption) ?_; walk_say "PRUNED mine") | (refine ite_pos (by (law_purse 20000 => (law_clear; (try simp only [beq_iff_eq, bne_iff_ne, ne_eq, decide_eq_true_eq]); omega))) ?_; walk_say "PRUNED small") | (refine ite_neg (by (law_purse 20000 => (law_clear; (try simp only [beq_iff_eq, bne_iff_ne, ne_eq, decide_eq_true_eq]); omega))) ?_; walk_say "PRUNED small") | (refine ite_pos (by (law_purse 40000 => (law_clear; (try law_fm); (try simp only [beq_iff_eq, bne_iff_ne, ne_eq, decide_eq_true_eq, decide_eq_false_iff_not, Bool.and_eq_true, Bool.or_eq_true, Bool.not_eq_true', Bool.not_eq_false', Bool.not_eq_true, beq_eq_false_iff_ne] at *); all_goals (first | assumption | omega)))) ?_; walk_say "PRUNED mine") | (refine ite_neg (by (law_purse 40000 => (law_clear; (try law_fm); (try simp only [beq_iff_eq, bne_iff_ne, ne_eq, decide_eq_true_eq, decide_eq_false_iff_not, Bool.and_eq_true, Bool.or_eq_true, Bool.not_eq_true', Bool.not_eq_false', Bool.not_eq_true, beq_eq_false_iff_ne] at *); all_goals (first | assumption | omega)))) ?_; walk_say "PRUNED mine"))
  k_with "binaryOp FloorDiv int int" => (k_here; refine' Mine.fdiv_as ?Zq_hq ?Zq_hb ?_ ?Zq_hp; (case Zq_hq => with_reducible assumption); (case Zq_hb => decide); (case Zq_hp => exact Or.inl (PyProof.noPylong_of_log2 (by decide +kernel))); k_whole)
  k_with "binaryOp Mod int int" => (k_here; refine' Mine.fmod_as ?Zq_hq ?Zq_hb ?_; (case Zq_hq => with_reducible assumption); (case Zq_hb => decide); k_whole)
  k_with "binaryOp Add int int" => (k_here; refine' Mine.add_as ?Zq_hq ?_; (case Zq_hq => with_reducible assumption); k_whole)
  k_with "binaryOp Sub int int" => (k_here; refine' Mine.sub_as ?Zq_hq ?_; (case Zq_hq => with_reducible assumption); k_whole)
  k_with "JInt" => first | (refine Mine.jint_stored ?Zq_e (by k_asm) (by first | k_asm | (refine' cb_drop ?Zq_cbN ?Zq_cbS; (case Zq_cbN => assumption); (case Zq_cbS => kcj_all))); (case Zq_e => first | rfl | assumption | (walk_at "mine_eq"))) | (refine Mine.jint_kept ?Zq_e rfl (by k_asm) (by first | k_asm | (refine' cb_drop ?Zq_cbN ?Zq_cbS; (case Zq_cbN => assumption); (case Zq_cbS => kcj_all))); (case Zq_e => first | rfl | assumption | (walk_at "mine_eq")))
  k_with "JSame" => (refine Mine.jsame_end (by k_asm) (by first | k_asm | (refine' cb_drop ?Zq_cbN ?Zq_cbS; (case Zq_cbN => assumption); (case Zq_cbS => kcj_all))))
  k_with "subscriptTail BinOp Name Add List Slice ref ref" => (k_here; k_dflt (refine' Mine.head3 ?Zq_F ?Zq_N ?Zq_l ?Zq_p ?Zq_q ?Zq_i ?Zq_n ?_ ?Zq_s ?Zq_z; (case Zq_F => k_asm); (case Zq_N => k_asm); (case Zq_l => kmk_list); (case Zq_p => kmk_part); (case Zq_q => kmk_part); (case Zq_i => l_ints); (case Zq_n => (simp only [List.length_append, List.length_cons, List.length_nil]; omega)); (case Zq_s => with_unfolding_all rfl); (case Zq_z => kmk_size)); intro D' h' a0 b0 c0 t0 u0 v0 F' N' l1; (try k_lt l1); (try k_sweep))
  k_with "exec If Compare cons nil" => (k_here; (with_reducible show wpAny _ _ (exec (Stmt.If (Expr.Compare (Expr.BinOp (Expr.Subscript (Expr.Name (Str.ofString "head") _) _ _) _ _ _) _ _ _) _ _ _) _) _ _ _); (fail_if_success (have hJ9 : Mine.Joined "year" := by assumption)); k_dflt (refine' Mine.joinAny "year" ?Zq_F ?Zq_N ?_ ?_; (case Zq_F => k_asm); (case Zq_N => k_asm); k_whole); rotate_left; (intro h9 tk9 y9 t9 F9 N9; (try k_sweep); have hB9 := Mine.begin_math y9; have hE9 := Mine.elder_math y9; have hL9 := Mine.NamedB.mk (x := "long") (p := Mine.isLeap y9); have hM9 := Mine.NamedL.mk (x := "lengths") (ns := [31, Mine.mlen (Mine.isLeap y9) 2, 31, 30, 31, 30, 31, 31, 30, 31, 30, 31]); have hN9 : Mine.Named "late" (Mine.lateOf y9) := Mine.Named.mk); rotate_right; (intro hJ9; try k_fold))
  k_with "JAny" => first | (refine Mine.jany_stored (by k_asm) (by first | k_asm | (refine' cb_drop ?Zq_cbN ?Zq_cbS; (case Zq_cbN => assumption); (case Zq_cbS => kcj_all)))) | (refine Mine.jany_kept rfl (by k_asm) (by first | k_asm | (refine' cb_drop ?Zq_cbN ?Zq_cbS; (case Zq_cbN => assumption); (case Zq_cbS => kcj_all))))
  k_with "exec Assign cons Tuple" => (k_here; (with_reducible show wpAny _ _ (exec (Stmt.Assign [Expr.Tuple [Expr.Name (Str.ofString "near") _, Expr.Name (Str.ofString "draw") _] _ _] _ _) _) _ _ _); (fail_if_success (have hJ9 : Mine.Joined "near" := by assumption)); k_dflt (refine' Mine.joinBI "near" "draw" ?Zq_F ?Zq_N ?_ ?_; (case Zq_F => k_asm); (case Zq_N => k_asm); k_whole); rotate_left; (intro h9 tk9 p9 v9 t9 F9 N9; (replace N9 := Mine.newsNil N9); (try k_sweep)); rotate_right; (intro hJ9; try k_fold))
  k_with "JBI" => (refine Mine.jbi_end (by k_asm) rfl (by first | k_asm | (refine' cb_drop ?Zq_cbN ?Zq_cbS; (case Zq_cbN => assumption); (case Zq_cbS => kcj_all))))
  k_with "exec Assign cons IfExp" => (k_here; (with_reducible show wpAny _ _ (exec (Stmt.Assign [Expr.Name (Str.ofString "ways") _] _ _) _) _ _ _); (fail_if_success (have hJ9 : Mine.Joined "ways" := by assumption)); k_dflt (refine' Mine.joinL3 "ways" ?Zq_F ?Zq_N ?_ ?_; (case Zq_F => k_asm); (case Zq_N => k_asm); k_whole); rotate_left; (intro h9 tk9 D9 a9 b9 c9 t9 u9 w9 F9 N9 l9; (try k_lt l9); (try k_sweep)); rotate_right; (intro hJ9; try k_fold))
  k_with "JL3" => (refine Mine.jl3_end (by k_asm) (by k_asm) ?Zq_l9; (case Zq_l9 => first | exact List.forall_mem_nil _ | exact ktn_ltOf (by ktn_lt)))
  k_with "exec Assign cons BoolOp" => (k_here; (with_reducible show wpAny _ _ (exec (Stmt.Assign [Expr.Name (Str.ofString "long") _] _ _) _) _ _ _); (fail_if_success (have hJ9 : Mine.Joined "long" := by assumption)); k_dflt (refine' Mine.joinBool "long" ?Zq_hn ?Zq_F ?Zq_N ?_ ?_; (case Zq_hn => assumption); (case Zq_F => k_asm); (case Zq_N => k_asm); k_whole); rotate_left; (intro h9 tk9 F9 N9; (try k_sweep)); rotate_right; (intro hJ9; try k_fold))
  k_with "exec Assign cons Tuple" => (k_here; (with_reducible show wpAny _ _ (exec (Stmt.Assign [Expr.Tuple [Expr.Name (Str.ofString "year") _, Expr.Name (Str.ofString "epoch") _] _ _] _ _) _) _ _ _); (fail_if_success (have hJ9 : Mine.Joined "year" := by assumption)); k_dflt (refine' Mine.joinII "year" "epoch" ?Zq_F ?Zq_N ?_ ?_; (case Zq_F => k_asm); (case Zq_N => k_asm); k_whole); rotate_left; (intro h9 tk9 y9 t9 e9 u9 F9 N9; (try k_sweep)); rotate_right; (intro hJ9; try k_fold))
  k_with "JII" => first | (refine Mine.jii_end (by k_asm) rfl (by first | k_asm | (refine' cb_drop ?Zq_cbN ?Zq_cbS; (case Zq_cbN => assumption); (case Zq_cbS => kcj_all)))) | (refine Mine.jii_end (by k_asm) ?Zq_e9 (by first | k_asm | (refine' cb_drop ?Zq_cbN ?Zq_cbS; (case Zq_cbN => assumption); (case Zq_cbS => kcj_all))); (case Zq_e9 => (funext z; by_cases h1 : z = Str.ofString "year" <;> by_cases h2 : z = Str.ofString "epoch" <;> simp_all)))
  k_with "JBool" => (refine Mine.jbool_end ?Zq_e (by k_asm) (by first | k_asm | (refine' cb_drop ?Zq_cbN ?Zq_cbS; (case Zq_cbN => assumption); (case Zq_cbS => kcj_all))); (case Zq_e => first | exact (beq_iff_eq.mpr (by with_reducible assumption)).trans (Mine.long_1 (by with_reducible assumption)).symm | exact Mine.long_3 (by with_reducible assumption) (by with_reducible assumption) | exact (beq_eq_false_iff_ne.mpr (by with_reducible assumption)).trans (Mine.long_2 (by with_reducible assumption) (by with_reducible assumption)).symm))
  k_with "exec Assign cons List" => (k_here; (with_reducible show wpAny _ _ (exec (Stmt.Assign [Expr.Name (Str.ofString "lengths") _] _ _) _) _ _ _); (fail_if_success (have hJ9 : Mine.Joined "lengths" := by assumption)); k_dflt (refine' Mine.joinLs "lengths" ?Zq_hn ?Zq_F ?Zq_N ?_ ?_; (case Zq_hn => assumption); (case Zq_F => k_asm); (case Zq_N => k_asm); k_whole); rotate_left; (intro h9 tk9 D9 vs9 F9 N9 hi9 l9; (try k_lt l9); (try k_sweep)); rotate_right; (intro hJ9; try k_fold))
  k_with "JLs" => (refine Mine.jls_end (by k_asm) (by k_asm) (by l_intsW) ?Zq_e9 ?Zq_l9; (case Zq_l9 => first | exact List.forall_mem_nil _ | exact ktn_ltOf (by ktn_lt)); (case Zq_e9 => first | (rw [show Mine.isLeap _ = true by with_reducible assumption]; rfl) | (rw [show Mine.isLeap _ = false by with_reducible assumption]; rfl)))
  k_with "exec Assign cons IfExp" => (k_here; (with_reducible show wpAny _ _ (exec (Stmt.Assign [Expr.Name (Str.ofString "late") _] _ _) _) _ _ _); (fail_if_success (with_reducible show wpAny _ _ _ (Mine.JInt _ _ _ _ _ _ _) _ _)); (fail_if_success (have hJ9 : Mine.Joined "late" := by assumption)); k_dflt (refine' Mine.joinInt (x := "late") ?Zq_hn ?Zq_F ?Zq_N ?_ ?_; (case Zq_hn => assumption); (case Zq_F => k_asm); (case Zq_N => k_asm); k_whole); rotate_left; (intro h9 tk9 t9 F9 N9; (try k_sweep)); rotate_right; (have hJ9 := Mine.Joined.mk (x := "late"); try k_fold))
  k_with "mine_eq" => first | exact Mine.late_1 (by with_reducible assumption) (by with_reducible assumption) | exact Mine.late_2 (by with_reducible assumption) | exact Mine.late_3 (by with_reducible assumption)
  k_with "call ref" => (k_here; k_dflt (refine' call_meth ?Zq_k1 ?Zq_k2 ?_; (case Zq_k1 => k_asm); (case Zq_k2 => k_mem); k_whole; k_enter))
  k_with "call ref" => (k_here; (with_reducible show wpAny _ _ (call (Value.ref 22) _) _ _ _); k_dflt (refine' Mine.useCl (Mine.c_isleap _ _ _ _ ) ?Zq_k1 ?Zq_k2 ?Zq_k3 ?Zq_k4 ?Zq_k5 ?Zq_kK ?Zq_kd ?Zq_ku ?_; (case Zq_k1 => k_asm); (case Zq_k2 => k_asm); (case Zq_k3 => k_asm); (case Zq_k4 => k_asm); (case Zq_k5 => k_asm); (case Zq_kK => first | exact rfl | assumption); (case Zq_kd => ktr_room); (case Zq_ku => ktr_units);  k_whole; dsimp only [Mine.RetV]; intro t9 h9 tk9 F9 N9); (try k_sweep); (try k_fold))
  k_with "call ref" => (k_here; (with_reducible show wpAny _ _ (call (Value.ref 58) _) _ _ _); k_dflt (refine' Mine.useCl (Mine.c_to_jd _ _ _ _ _ _ _ _ ?Zq_p0 ?Zq_p1) ?Zq_k1 ?Zq_k2 ?Zq_k3 ?Zq_k4 ?Zq_k5 ?Zq_kK ?Zq_kd ?Zq_ku ?_; (case Zq_k1 => k_asm); (case Zq_k2 => k_asm); (case Zq_k3 => k_asm); (case Zq_k4 => k_asm); (case Zq_k5 => k_asm); (case Zq_kK => first | exact rfl | assumption); (case Zq_kd => ktr_room); (case Zq_ku => ktr_units); (case Zq_p0 => (first | with_reducible assumption | (law_purse 40000 => (law_clear; omega)) | decide | (walk_at "mine_fact"))); (case Zq_p1 => (first | with_reducible assumption | (law_purse 40000 => (law_clear; omega)) | decide | (walk_at "mine_fact"))); k_whole; dsimp only [Mine.RetV]; intro t9 h9 tk9 F9 N9); (try k_sweep); (try k_fold))
  k_with "call ref" => (k_here; (with_reducible show wpAny _ _ (call (Value.ref 58) _) _ _ _); k_dflt (refine' Mine.useCl (Mine.c_to_jdD _ _ _ _ _ _ _ _ ?Zq_q0) ?Zq_k1 ?Zq_k2 ?Zq_k3 ?Zq_k4 ?Zq_k5 ?Zq_kK ?Zq_kd ?Zq_ku ?_; (case Zq_k1 => k_asm); (case Zq_k2 => k_asm); (case Zq_k3 => k_asm); (case Zq_k4 => k_asm); (case Zq_k5 => k_asm); (case Zq_kK => first | exact rfl | assumption); (case Zq_kd => ktr_room); (case Zq_ku => ktr_units); (case Zq_q0 => (first | with_reducible assumption | (law_purse 40000 => (law_clear; omega)) | decide | (walk_at "mine_fact"))); k_whole; dsimp only [Mine.RetV]; intro t9 h9 tk9 F9 N9); (try k_sweep); (try k_fold))
  k_with "call ref" => (k_here; (with_reducible show wpAny _ _ (call (Value.ref 51) _) _ _ _); k_dflt (refine' Mine.useCl (Mine.c_to_jd2D _ _ _ _ _ _ _ _ ?Zq_q0) ?Zq_k1 ?Zq_k2 ?Zq_k3 ?Zq_k4 ?Zq_k5 ?Zq_kK ?Zq_kd ?Zq_ku ?_; (case Zq_k1 => k_asm); (case Zq_k2 => k_asm); (case Zq_k3 => k_asm); (case Zq_k4 => k_asm); (case Zq_k5 => k_asm); (case Zq_kK => first | exact rfl | assumption); (case Zq_kd => ktr_room); (case Zq_ku => ktr_units); (case Zq_q0 => (first | with_reducible assumption | (law_purse 40000 => (law_clear; omega)) | decide | (walk_at "mine_fact"))); k_whole; dsimp only [Mine.RetV]; intro t9 h9 tk9 F9 N9); (try k_sweep); (try k_fold))
  k_with "call ref" => (k_here; (with_reducible show wpAny _ _ (call (Value.ref 171) _) _ _ _); k_dflt (refine' Mine.useCl (Mine.c_ord _ _ _ _ _ _ ) ?Zq_k1 ?Zq_k2 ?Zq_k3 ?Zq_k4 ?Zq_k5 ?Zq_kK ?Zq_kd ?Zq_ku ?_; (case Zq_k1 => k_asm); (case Zq_k2 => k_asm); (case Zq_k3 => k_asm); (case Zq_k4 => k_asm); (case Zq_k5 => k_asm); (case Zq_kK => first | exact rfl | assumption); (case Zq_kd => ktr_room); (case Zq_ku => ktr_units);  k_whole; dsimp only [Mine.RetV]; intro t9 h9 tk9 F9 N9); (try k_sweep); (try k_fold))
  k_with "call ref" => (k_here; (with_reducible show wpAny _ _ (call (Value.ref 29) _) _ _ _); k_dflt (refine' Mine.useCl (Mine.c_monthrange _ _ _ _ _ _ ?Zq_p0 ?Zq_p1) ?Zq_k1 ?Zq_k2 ?Zq_k3 ?Zq_k4 ?Zq_k5 ?Zq_kK ?Zq_kd ?Zq_ku ?_; (case Zq_k1 => k_asm); (case Zq_k2 => k_asm); (case Zq_k3 => k_asm); (case Zq_k4 => k_asm); (case Zq_k5 => k_asm); (case Zq_kK => first | exact rfl | assumption); (case Zq_kd => ktr_room); (case Zq_ku => ktr_units); (case Zq_p0 => (first | with_reducible assumption | (law_purse 40000 => (law_clear; omega)) | decide | (walk_at "mine_fact"))); (case Zq_p1 => (first | with_reducible assumption | (law_purse 40000 => (law_clear; omega)) | decide | (walk_at "mine_fact"))); k_whole; dsimp only [Mine.RetT2]; intro D9 t9 u9 c9 h9 tk9 F9 N9 l9; (try k_lt l9)); (try k_sweep); (try k_fold))
  k_with "call ref" => (k_here; (with_reducible show wpAny _ _ (call (Value.ref 178) _) _ _ _); k_dflt (refine' Mine.useCl (Mine.c_fromgD _ _ _ _ _ _ _ _ ?Zq_q0) ?Zq_k1 ?Zq_k2 ?Zq_k3 ?Zq_k4 ?Zq_k5 ?Zq_kK ?Zq_kd ?Zq_ku ?_; (case Zq_k1 => k_asm); (case Zq_k2 => k_asm); (case Zq_k3 => k_asm); (case Zq_k4 => k_asm); (case Zq_k5 => k_asm); (case Zq_kK => first | exact rfl | assumption); (case Zq_kd => ktr_room); (case Zq_ku => ktr_units); (case Zq_q0 => (first | with_reducible assumption | (law_purse 40000 => (law_clear; omega)) | decide | (walk_at "mine_fact"))); k_whole; dsimp only [Mine.RetT2]; intro D9 t9 u9 c9 h9 tk9 F9 N9 l9; (try k_lt l9)); (try k_sweep); (try k_fold))
  k_with "call ref" => (k_here; (with_reducible show wpAny _ _ (call (Value.ref 65) _) _ _ _); k_dflt (refine' Mine.useCl (Mine.c_from_jdD _ _ _ _ _ _ _ ?Zq_q0 ?Zq_p0) ?Zq_k1 ?Zq_k2 ?Zq_k3 ?Zq_k4 ?Zq_k5 ?Zq_kK ?Zq_kd ?Zq_ku ?_; (case Zq_k1 => k_asm); (case Zq_k2 => k_asm); (case Zq_k3 => k_asm); (case Zq_k4 => k_asm); (case Zq_k5 => k_asm); (case Zq_kK => first | exact rfl | assumption); (case Zq_kd => ktr_room); (case Zq_ku => ktr_units); (case Zq_q0 => (first | with_reducible assumption | (law_purse 40000 => (law_clear; omega)) | decide | (walk_at "mine_fact"))); (case Zq_p0 => (first | with_reducible assumption | (law_purse 40000 => (law_clear; omega)) | decide | (walk_at "mine_fact"))); k_whole; dsimp only [Mine.RetT3]; intro D9 t9 u9 v9 c9 h9 tk9 F9 N9 l9; (try k_lt l9)); (try k_sweep); (try k_fold))
  k_with "call ref" => (k_here; (with_reducible show wpAny _ _ (call (Value.ref 101) _) _ _ _); k_dflt (refine' Mine.useCl (Mine.c_jto _ _ _ _ _ _ _ _ ?Zq_p0 ?Zq_p1 ?Zq_p2 ?Zq_p3) ?Zq_k1 ?Zq_k2 ?Zq_k3 ?Zq_k4 ?Zq_k5 ?Zq_kK ?Zq_kd ?Zq_ku ?_; (case Zq_k1 => k_asm); (case Zq_k2 => k_asm); (case Zq_k3 => k_asm); (case Zq_k4 => k_asm); (case Zq_k5 => k_asm); (case Zq_kK => first | exact rfl | assumption); (case Zq_kd => ktr_room); (case Zq_ku => ktr_units); (case Zq_p0 => (first | with_reducible assumption | (law_purse 40000 => (law_clear; omega)) | decide | (walk_at "mine_fact"))); (case Zq_p1 => (first | with_reducible assumption | (law_purse 40000 => (law_clear; omega)) | decide | (walk_at "mine_fact"))); (case Zq_p2 => (first | with_reducible assumption | (law_purse 40000 => (law_clear; omega)) | decide | (walk_at "mine_fact"))); (case Zq_p3 => (first | with_reducible assumption | (law_purse 40000 => (law_clear; omega)) | decide | (walk_at "mine_fact"))); k_whole; dsimp only [Mine.RetV]; intro t9 h9 tk9 F9 N9); (try k_sweep); (try k_fold))
  k_with "call ref" => (k_here; (with_reducible show wpAny _ _ (call (Value.ref 94) _) _ _ _); k_dflt (refine' Mine.useCl (Mine.c_jfrom _ _ _ _ ) ?Zq_k1 ?Zq_k2 ?Zq_k3 ?Zq_k4 ?Zq_k5 ?Zq_kK ?Zq_kd ?Zq_ku ?_; (case Zq_k1 => k_asm); (case Zq_k2 => k_asm); (case Zq_k3 => k_asm); (case Zq_k4 => k_asm); (case Zq_k5 => k_asm); (case Zq_kK => first | exact rfl | assumption); (case Zq_kd => ktr_room); (case Zq_ku => ktr_units);  k_whole; dsimp only [Mine.RetJ, Mine.RetT3]; intro y9 m9 d9 a9 b9 c9 e9 f9 D9 t9 u9 v9 n9 h9 tk9 F9 N9 l9; (try k_lt l9)); (try k_sweep); (try k_fold))
  k_with "mine_fact" => exact Mine.mlen28 _ _
  k_with "call ref" => (k_here; (with_reducible show wpAny _ _ (call (Value.ref 185) _) _ _ _); k_dflt (refine' Mine.use_refused ?Zq_k1 ?Zq_k2 ?Zq_k3 ?Zq_k4 ?Zq_kD ?Zq_kx ?Zq_kdx ?Zq_k5 ?Zq_k6 ?Zq_k7 ?Zq_kK ?Zq_kd ?Zq_ku ?Zq_km ?Zq_kn ?Zq_kb ?_; (case Zq_k1 => k_asm); (case Zq_k2 => k_asm); (case Zq_k3 => k_asm); (case Zq_k4 => k_asm); (case Zq_kD => k_mem); (case Zq_kx => k_mem); (case Zq_kdx => k_mem); (case Zq_k5 => k_asm); (case Zq_k6 => k_asm); (case Zq_k7 => k_asm); (case Zq_kK => first | exact rfl | assumption); (case Zq_kd => ktr_room); (case Zq_ku => ktr_units); (case Zq_km => (law_purse 40000 => (law_clear; omega))); (case Zq_kn => (law_purse 40000 => (law_clear; omega))); (case Zq_kb => first | exact Or.inl rfl | exact Or.inr rfl); k_whole); intro h9 tk9 F9 N9; (try k_sweep); (try k_fold))
  k_with "eval Call Attribute cons nil" => (k_here; refine MethodCall_ ?_)
  k_with "eval Call Attribute cons nil" => (k_here; (with_reducible show wpAny _ _ (eval (Expr.Call (Expr.Attribute _ _ _) [Expr.Starred _ _] [] _) _) _ _ _); refine Mine.methodCall_star ?_)
  k_with "callWith ref" => (k_here; (with_reducible show wpAny _ _ (callWith _ (Value.ref _) _ (backTo _ (starEach [Expr.Starred _ _] _)) []) _ _ _); k_dflt (refine' Mine.callWith_MS ?Zq_k1 ?Zq_k2 ?Zq_k3 ?Zq_k4 ?_; (case Zq_k1 => k_asm); (case Zq_k2 => k_asm); (case Zq_k3 => k_mem); (case Zq_k4 => k_is); k_whole))
  k_with "subscriptTail Name BinOp ref int" => (k_here; (with_reducible show wpAny _ _ (subscriptTail _ _ (Value.ref _) (Value.int _ _)) _ _ _); k_dflt (refine' Mine.item_any ?Zq_l ?Zq_i ?Zq_a ?Zq_b ?Zq_c ?_ ?Zq_s ?Zq_g; (case Zq_l => is_list); (case Zq_i => l_intsW); (case Zq_a => omega); (case Zq_b => (simp only [List.length_cons, List.length_nil]; omega)); (case Zq_c => omega); (case Zq_s => with_unfolding_all rfl); (case Zq_g => kmk_pure); k_whole); intro v9 t9)
  k_with "subscriptTail Name BinOp ref int" => (k_here; (with_reducible show wpAny _ _ (subscriptTail _ _ (Value.ref _) (Value.int (_ - 1) _)) _ _ _); k_dflt (refine' Mine.item_len ?Zq_l ?Zq_i ?Zq_a ?Zq_b ?_ ?Zq_s ?Zq_g; (case Zq_l => is_list); (case Zq_i => with_reducible assumption); (case Zq_a => omega); (case Zq_b => omega); (case Zq_s => with_unfolding_all rfl); (case Zq_g => kmk_pure); k_whole); intro t9 lo9 hi9)
  k_with "binaryOp Mod int int" => (k_here; (with_reducible show wpAny _ _ (binaryOp Operator.Mod (Value.int _ _) (Value.int 3 _)) _ _ _); refine' Mine.mod_any ?Zq_b ?_; (case Zq_b => decide); k_whole; intro r9 ra9 rb9)
  k_with "binaryOp Mod int int" => (k_here; (with_reducible show wpAny _ _ (binaryOp Operator.Mod (Value.int _ _) (Value.int (Mine.mlen _ _) _)) _ _ _); refine' Mine.mod_any ?Zq_b ?_; (case Zq_b => (law_purse 40000 => (law_clear; omega))); k_whole; intro r9 ra9 rb9)
  k_with "exec If" => (k_here; (with_reducible show wpAny _ _ (exec (Stmt.If _ [Stmt.Return (some (Expr.Constant (Const.bool Bool.false) _ _)) _] [] _) _) _ _ _); (fail_if_success (have hJ9 : Mine.Joined "same" := by assumption)); k_dflt (refine' Mine.joinSameJ ?Zq_F ?Zq_N ?_ ?_; (case Zq_F => k_asm); (case Zq_N => k_asm); k_whole); rotate_left; (intro h9 tk9 F9 N9; (try k_sweep)); rotate_right; (intro hJ9; try k_fold))
  k_with "exec Assign cons Subscript" => (k_here; (with_reducible show wpAny _ _ (exec (Stmt.Assign [Expr.Name (Str.ofString "length") _] _ _) _) _ _ _); k_dflt (refine' Mine.turn_facts ?Zq_F ?Zq_e1 ?Zq_e2 ?Zq_hk ?Zq_hlt ?Zq_hw ?_; (case Zq_F => k_asm); (case Zq_e1 => exact rfl); (case Zq_e2 => exact rfl); (case Zq_hk => assumption); (case Zq_hlt => assumption); (case Zq_hw => assumption); k_whole); intro ka9 kb9 kw9 kel9; subst kw9; refine wpAny_Assign_Name ?_)
  k_with "pyIter ref" => (k_here; k_dflt (refine' Mine.iter_days [Str.ofString "day", Str.ofString "date", Str.ofString "place", Str.ofString "n"] ?Zq_hx ?Zq_hh ?Zq_F ?Zq_N ?Zq_lt ?Zq_hi ?Zq_e1 ?Zq_e2 ?Zq_a ?Zq_b ?Zq_p (Str.ofString "n") ?Zq_ne ?_ ?_; (case Zq_hx => decide); (case Zq_hh => exact rfl); (case Zq_F => k_asm); (case Zq_N => k_asm); (case Zq_lt => exact ktn_ltOf (by ktn_lt)); (case Zq_hi => l_intsW); (case Zq_ne => exact List.cons_ne_nil _ _); (case Zq_e1 => exact rfl); (case Zq_e2 => exact rfl); (case Zq_a => assumption); (case Zq_b => assumption); (case Zq_p => (intro n hn; simp only [List.mem_cons, List.not_mem_nil, or_false] at hn; rcases hn with rfl | rfl <;> (constructor <;> (law_purse 40000 => (law_clear; omega))))); k_whole); rotate_left; (intro u9 v9 w9 h9 tk9 F9 N9; (try k_sweep)); rotate_right; (intro n9 t9 u9 h9 tk9 own9 hD9 F9 N9; (try k_sweep); (try k_fold)))
  k_with "JBody" => (refine Mine.jbody_end (by k_asm) (by first | k_asm | exact cb_drop (by assumption) (by intro p hp; repeat (first | with_reducible exact hp | refine List.mem_cons_of_mem _ ?_))) ?_ ⟨_, _, rfl⟩; intro z hz; (have g1 : z ≠ Str.ofString "n" := fun e => by rw [e] at hz; exact absurd hz (by decide)); (have g2 : z ≠ Str.ofString "place" := fun e => by rw [e] at hz; exact absurd hz (by decide)); (have g3 : z ≠ Str.ofString "date" := fun e => by rw [e] at hz; exact absurd hz (by decide)); (have g4 : z ≠ Str.ofString "day" := fun e => by rw [e] at hz; exact absurd hz (by decide)); simp only [if_neg g1, if_neg g2, if_neg g3, if_neg g4, hz, Bool.false_eq_true, if_false])
  k_with "JSame" => (refine Mine.jsame_end (by k_asm) (by first | k_asm | exact cb_drop (by assumption) (by intro p hp; repeat (first | with_reducible exact hp | refine List.mem_cons_of_mem _ ?_))))
  k_with "compareOp Eq int int" => (k_here; with_reducible refine Mine.eq_same ?_)
  k_with "GoodW" => (kc_bool; (first | (refine goodW_bool (by with_reducible assumption) (by with_reducible assumption) (raisesW_false ?_) ?_) | (refine goodW_bool (by assumption) (by assumption) (raisesW_false ?_) ?_)); (· wrow_none_raised); (· (refine postW_of (by wrow_shape) (w_eq_bool (w_res rfl) w_lit) ?_; rfl)))
  k_with "InvEndN" => (k_here; k_dflt (refine' Mine.inv_end (Str.ofString "walked") ?Zq_zF ?Zq_zN ?Zq_zv ?Zq_zps ?Zq_zn ?Zq_zo ?Zq_za ?Zq_zf ?Zq_zr ?Zq_zp; (case Zq_zF => assumption); (case Zq_zN => assumption); (case Zq_zv => exact rfl); (case Zq_zps => exact rfl); (case Zq_za => exact rfl); (case Zq_zn => (intro p hp; exact List.mem_append_left _ hp)); (case Zq_zo => (intro p hp; repeat (first | with_reducible exact hp | refine List.mem_cons_of_mem _ ?_))); (case Zq_zf => exact True.intro); (case Zq_zr => (intro z h1 h2 h3; have h4 := Mine.names_off h3; obtain ⟨h5, h6, h7⟩ := h4; simp only [if_neg h1, if_neg h2, if_neg h6, if_neg h7, h5, h3, Bool.false_eq_true, if_false])); (case Zq_zp => exact Mine.step_end (by assumption) (by assumption))))
  k_with "pyIter ref" => k_state_given ["year"] (fun y pre k => k = Mine.cum (Mine.isLeap y) (1 + (pre.length : Int))) "walked"
  k_with "state" => first | exact Mine.walk_start _ | exact Mine.walk_step (by assumption) (by assumption) (by assumption)
  w_strict (k_go0; (all_goals try k_fold); repeat' (first | (k_unfold; (try dsimp only)) | walk1 | (dsimp only; walk1) | (leave1; walk_say "STEP leave1"; try dsimp only) | fail "no step"))
end
