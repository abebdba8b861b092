import PyProof.Rows.All
import Wide.All
import OpenK.AllK
import Wide.FinOn
import Lean
import PySem.Challenge.RW_aq6037_01
set_option Elab.async false
set_option maxRecDepth 100000
set_option maxHeartbeats 8000000

/-! ## The plain law: what is nearest to P / Q -/
section
namespace Aq
def gap (P Q x y : Int) : Int := ((x * Q - P * y).natAbs : Int)
/-- a/b is nearer to P/Q than x/y, or as near with less below, or less above -/
def Beats (P Q a b x y : Int) : Prop := gap P Q a b * y < gap P Q x y * b ∨ (gap P Q a b * y = gap P Q x y * b ∧ (b < y ∨ (b = y ∧ a ≤ x)))
def Best (P Q most a b : Int) : Prop := 0 ≤ a ∧ 1 ≤ b ∧ b ≤ most ∧ ∀ x y, 0 ≤ x → 1 ≤ y → y ≤ most → Beats P Q a b x y

theorem gap_nonneg (P Q x y : Int) : 0 ≤ gap P Q x y := by unfold gap; omega

theorem best_unique {P Q most a b a' b' : Int} (h : Best P Q most a b) (h' : Best P Q most a' b') : a = a' ∧ b = b' := by
  obtain ⟨h1, h2, h3, h4⟩ := h
  obtain ⟨k1, k2, k3, k4⟩ := h'
  have e1 := h4 a' b' k1 k2 k3
  have e2 := k4 a b h1 h2 h3
  unfold Beats at e1 e2
  generalize gap P Q a b * b' = X at *
  generalize gap P Q a' b' * b = Y at *
  omega

theorem gap_scale {n d V q x y : Int} (h : n * q = V * d) (hq : 0 < q) (hd : 0 < d) : gap n d x y * q = gap V q x y * d := by
  unfold gap
  have e1 : ((q.natAbs : Nat) : Int) = q := by omega
  have e2 : ((d.natAbs : Nat) : Int) = d := by omega
  have e3 : (x * d - n * y) * q = (x * q - V * y) * d := by grind
  have e4 := congrArg Int.natAbs e3
  rw [Int.natAbs_mul, Int.natAbs_mul] at e4
  have e5 := congrArg (fun k : Nat => (k : Int)) e4
  simp only [Int.natCast_mul] at e5
  rw [e1, e2] at e5
  exact e5

theorem beats_scale {n d V q a b x y : Int} (h : n * q = V * d) (hq : 0 < q) (hd : 0 < d) (hb : Beats n d a b x y) : Beats V q a b x y := by
  have g1 := gap_scale (x := a) (y := b) h hq hd
  have g2 := gap_scale (x := x) (y := y) h hq hd
  unfold Beats at *
  generalize gap n d a b = A at *
  generalize gap n d x y = X at *
  generalize gap V q a b = A' at *
  generalize gap V q x y = X' at *
  have k1 : A * y * q = A' * y * d := by grind
  have k2 : X * b * q = X' * b * d := by grind
  rcases hb with hb | ⟨hb, hc⟩
  · left
    have := Int.mul_lt_mul_of_pos_right hb hq
    rw [k1, k2] at this
    exact Int.lt_of_mul_lt_mul_right this (by omega)
  · right
    refine ⟨?_, hc⟩
    have := congrArg (· * q) hb
    have this : A * y * q = X * b * q := this
    rw [k1, k2] at this
    exact Int.eq_of_mul_eq_mul_right (by omega) this
theorem best_scale {n d V q most a b : Int} (h : n * q = V * d) (hq : 0 < q) (hd : 0 < d) (hb : Best n d most a b) : Best V q most a b :=
  ⟨hb.1, hb.2.1, hb.2.2.1, fun x y h1 h2 h3 => beats_scale h hq hd (hb.2.2.2 x y h1 h2 h3)⟩

theorem gap_of {P Q x y r : Int} (h : x * Q - P * y = r) (h0 : 0 ≤ r) : gap P Q x y = r := by unfold gap; omega
theorem gap_of' {P Q x y r : Int} (h : x * Q - P * y = -r) (h0 : 0 ≤ r) : gap P Q x y = r := by unfold gap; omega

theorem beats_trans {P Q a b x y z w : Int} (hb : 1 ≤ b) (hy : 1 ≤ y) (hw : 1 ≤ w) (h1 : Beats P Q a b x y) (h2 : Beats P Q x y z w) : Beats P Q a b z w := by
  unfold Beats at *
  have n1 := gap_nonneg P Q a b
  have n2 := gap_nonneg P Q x y
  have n3 := gap_nonneg P Q z w
  generalize gap P Q a b = A at *
  generalize gap P Q x y = X at *
  generalize gap P Q z w = Z at *
  -- A y ≤ X b, X w ≤ Z y
  have l1 : A * y ≤ X * b := by omega
  have l2 : X * w ≤ Z * y := by omega
  have m1 : A * y * w ≤ X * b * w := Int.mul_le_mul_of_nonneg_right l1 (by omega)
  have m2 : X * w * b ≤ Z * y * b := Int.mul_le_mul_of_nonneg_right l2 (by omega)
  have e1 : A * y * w = A * w * y := by grind
  have e2 : X * b * w = X * w * b := by grind
  have e3 : Z * y * b = Z * b * y := by grind
  rcases h1 with h1 | ⟨h1, c1⟩
  · left
    have m3 := Int.mul_lt_mul_of_pos_right h1 (show (0 : Int) < w by omega)
    exact Int.lt_of_mul_lt_mul_right (a := y) (by omega) (by omega)
  · rcases h2 with h2 | ⟨h2, c2⟩
    · left
      have m3 := Int.mul_lt_mul_of_pos_right h2 (show (0 : Int) < b by omega)
      have m4 : A * y * w = X * b * w := congrArg (· * w) h1
      exact Int.lt_of_mul_lt_mul_right (a := y) (by omega) (by omega)
    · right
      refine ⟨?_, by omega⟩
      have m3 : A * y * w = X * b * w := congrArg (· * w) h1
      have m4 : X * w * b = Z * y * b := congrArg (· * b) h2
      exact Int.eq_of_mul_eq_mul_right (show y ≠ 0 by omega) (by omega)

/-- the frame of the walk: a/b below or at n/d, c/e above it, neighbours -/
def Inv (n d most a b c e : Int) : Prop := 0 ≤ a ∧ 1 ≤ b ∧ 0 ≤ c ∧ 1 ≤ e ∧ b ≤ most ∧ e ≤ most ∧ 0 ≤ n * b - a * d ∧ 0 < c * d - n * e ∧ c * b - a * e = 1

section
variable {n d most a b c e : Int}
theorem inv_d (h : Inv n d most a b c e) : b * (c * d - n * e) + e * (n * b - a * d) = d := by
  obtain ⟨_, _, _, _, _, _, _, _, h⟩ := h
  have : b * (c * d - n * e) + e * (n * b - a * d) = d * (c * b - a * e) := by grind
  rw [this, h, Int.mul_one]

/-- below: x b ≤ a y -/
theorem low_side (hi : Inv n d most a b c e) (hd : 0 < d) {x y : Int} (hy : 1 ≤ y) (hu : x * b ≤ a * y) :
    gap n d a b = n * b - a * d ∧ gap n d x y * b = gap n d a b * y + (a * y - x * b) * d ∧ 1 ≤ c * y - x * e ∧ y = (c * y - x * e) * b - (a * y - x * b) * e ∧ x = (c * y - x * e) * a - (a * y - x * b) * c := by
  obtain ⟨ha, hb, hc, he, _, _, hp, hq, hn⟩ := hi
  have g1 : gap n d a b = n * b - a * d := gap_of' (by omega) hp
  have ey : y = (c * y - x * e) * b - (a * y - x * b) * e := by
    have : (c * y - x * e) * b - (a * y - x * b) * e = y * (c * b - a * e) := by grind
    rw [this, hn, Int.mul_one]
  have ex : x = (c * y - x * e) * a - (a * y - x * b) * c := by
    have : (c * y - x * e) * a - (a * y - x * b) * c = x * (c * b - a * e) := by grind
    rw [this, hn, Int.mul_one]
  have hv : 1 ≤ c * y - x * e := by
    have h1 : 0 ≤ (a * y - x * b) * e := Int.mul_nonneg (by omega) (by omega)
    have h2 : 0 < (c * y - x * e) * b := by omega
    rcases Int.lt_or_le 0 (c * y - x * e) with h | h
    · omega
    · have : (c * y - x * e) * b ≤ 0 := Int.mul_nonpos_of_nonpos_of_nonneg h (by omega)
      omega
  have hr : (n * y - x * d) * b = (n * b - a * d) * y + (a * y - x * b) * d := by grind
  have h3 : 0 ≤ (n * b - a * d) * y := Int.mul_nonneg hp (by omega)
  have h4 : 0 ≤ (a * y - x * b) * d := Int.mul_nonneg (by omega) (by omega)
  have h5 : 0 ≤ n * y - x * d := by
    rcases Int.lt_or_le (n * y - x * d) 0 with h | h
    · have : (n * y - x * d) * b < 0 := Int.mul_neg_of_neg_of_pos h (by omega)
      omega
    · exact h
  have g2 : gap n d x y = n * y - x * d := gap_of' (by omega) h5
  rw [g1, g2]
  exact ⟨rfl, hr, hv, ey, ex⟩
theorem high_side (hi : Inv n d most a b c e) (hd : 0 < d) {x y : Int} (hy : 1 ≤ y) (hu : c * y ≤ x * e) :
    gap n d c e = c * d - n * e ∧ gap n d x y * e = gap n d c e * y + (x * e - c * y) * d ∧ 1 ≤ x * b - a * y ∧ y = (x * b - a * y) * e - (x * e - c * y) * b ∧ x = (x * b - a * y) * c - (x * e - c * y) * a := by
  obtain ⟨ha, hb, hc, he, _, _, hp, hq, hn⟩ := hi
  have g1 : gap n d c e = c * d - n * e := gap_of (by omega) (by omega)
  have ey : y = (x * b - a * y) * e - (x * e - c * y) * b := by
    have : (x * b - a * y) * e - (x * e - c * y) * b = y * (c * b - a * e) := by grind
    rw [this, hn, Int.mul_one]
  have ex : x = (x * b - a * y) * c - (x * e - c * y) * a := by
    have : (x * b - a * y) * c - (x * e - c * y) * a = x * (c * b - a * e) := by grind
    rw [this, hn, Int.mul_one]
  have hv : 1 ≤ x * b - a * y := by
    have h1 : 0 ≤ (x * e - c * y) * b := Int.mul_nonneg (by omega) (by omega)
    have h2 : 0 < (x * b - a * y) * e := by omega
    rcases Int.lt_or_le 0 (x * b - a * y) with h | h
    · omega
    · have : (x * b - a * y) * e ≤ 0 := Int.mul_nonpos_of_nonpos_of_nonneg h (by omega)
      omega
  have hr : (x * d - n * y) * e = (c * d - n * e) * y + (x * e - c * y) * d := by grind
  have h3 : 0 ≤ (c * d - n * e) * y := Int.mul_nonneg (by omega) (by omega)
  have h4 : 0 ≤ (x * e - c * y) * d := Int.mul_nonneg (by omega) (by omega)
  have h5 : 0 ≤ x * d - n * y := by
    rcases Int.lt_or_le (x * d - n * y) 0 with h | h
    · have : (x * d - n * y) * e < 0 := Int.mul_neg_of_neg_of_pos h (by omega)
      omega
    · exact h
  have g2 : gap n d x y = x * d - n * y := gap_of (by omega) h5
  rw [g1, g2]
  exact ⟨rfl, hr, hv, ey, ex⟩

theorem low_beats (hi : Inv n d most a b c e) (hd : 0 < d) {x y : Int} (hy : 1 ≤ y) (hu : x * b ≤ a * y) : Beats n d a b x y := by
  obtain ⟨_, h2, hv, ey, ex⟩ := low_side hi hd hy hu
  obtain ⟨ha, hb, hc, he, _, _, hp, hq, hn⟩ := hi
  unfold Beats
  rw [h2]
  by_cases hz : a * y - x * b = 0
  · right
    rw [hz] at ex ey ⊢
    refine ⟨by omega, ?_⟩
    generalize c * y - x * e = v at *
    simp only [Int.zero_mul, Int.sub_zero] at ex ey
    by_cases h1 : v = 1
    · right; subst h1; omega
    · left
      have : 2 * b ≤ v * b := Int.mul_le_mul_of_nonneg_right (by omega) (by omega)
      omega
  · left
    have : 0 < (a * y - x * b) * d := Int.mul_pos (by omega) hd
    omega
theorem high_beats (hi : Inv n d most a b c e) (hd : 0 < d) {x y : Int} (hy : 1 ≤ y) (hu : c * y ≤ x * e) : Beats n d c e x y := by
  obtain ⟨_, h2, hv, ey, ex⟩ := high_side hi hd hy hu
  obtain ⟨ha, hb, hc, he, _, _, hp, hq, hn⟩ := hi
  unfold Beats
  rw [h2]
  by_cases hz : x * e - c * y = 0
  · right
    rw [hz] at ex ey ⊢
    refine ⟨by omega, ?_⟩
    generalize x * b - a * y = v at *
    simp only [Int.zero_mul, Int.sub_zero] at ex ey
    by_cases h1 : v = 1
    · right; subst h1; omega
    · left
      have : 2 * e ≤ v * e := Int.mul_le_mul_of_nonneg_right (by omega) (by omega)
      omega
  · left
    have : 0 < (x * e - c * y) * d := Int.mul_pos (by omega) hd
    omega
theorem gaps (hi : Inv n d most a b c e) : gap n d a b = n * b - a * d ∧ gap n d c e = c * d - n * e := by
  obtain ⟨ha, hb, hc, he, _, _, hp, hq, hn⟩ := hi
  exact ⟨gap_of' (by omega) hp, gap_of (by omega) (by omega)⟩

theorem mid_none (hi : Inv n d most a b c e) {x y : Int} (h2 : y ≤ most) (hx : most < b + e) (hu : ¬ x * b ≤ a * y) (hv : ¬ c * y ≤ x * e) : False := by
  obtain ⟨ha, hb, hc, he, hbm, hem, hp, hq, hn⟩ := hi
  have ey : y = (x * b - a * y) * e + (c * y - x * e) * b := by
    have : (x * b - a * y) * e + (c * y - x * e) * b = y * (c * b - a * e) := by grind
    rw [this, hn, Int.mul_one]
  have k1 : 1 * e ≤ (x * b - a * y) * e := Int.mul_le_mul_of_nonneg_right (by omega) (by omega)
  have k2 : 1 * b ≤ (c * y - x * e) * b := Int.mul_le_mul_of_nonneg_right (by omega) (by omega)
  omega
theorem exact_beats (hi : Inv n d most a b c e) (hd : 0 < d) (hx : a * d = n * b) {x y : Int} (h1 : 1 ≤ y) : Beats n d a b x y := by
  have lo := @low_beats n d most a b c e hi hd x y h1
  obtain ⟨g1, _⟩ := gaps hi
  obtain ⟨ha, hb, hc, he, hbm, hem, hp, hq, hn⟩ := hi
  have g0 : gap n d a b = 0 := by omega
  have gn := gap_nonneg n d x y
  by_cases hz : gap n d x y = 0
  · refine lo ?_
    have h3 : x * d - n * y = 0 := by unfold gap at hz; omega
    have h4 : (x * b - a * y) * d = 0 := by
      have : (x * b - a * y) * d = b * (x * d - n * y) + y * (n * b - a * d) := by grind
      rw [this, h3, hx]
      simp
    rcases Int.mul_eq_zero.mp h4 with h | h
    · omega
    · omega
  · left
    rw [g0, Int.zero_mul]
    exact Int.mul_pos (by omega) (by omega)

/-- the end: a/b where it is as near -/
theorem end_low (hi : Inv n d most a b c e) (hd : 0 < d) (hx : most < b + e ∨ a * d = n * b) (hl : ¬ ((n * b - a * d) * e > (c * d - n * e) * b)) (ht : ¬ ((n * b - a * d) * e = (c * d - n * e) * b ∧ b > e)) : Best n d most a b := by
  have ⟨g1, g2⟩ := gaps hi
  have lo := @low_beats n d most a b c e hi hd
  have hh := @high_beats n d most a b c e hi hd
  have mn := @mid_none n d most a b c e hi
  have ex := @exact_beats n d most a b c e hi hd
  obtain ⟨ha, hb, hc, he, hbm, hem, hp, hq, hn⟩ := hi
  refine ⟨ha, hb, hbm, fun x y h0 h1 h2 => ?_⟩
  rcases hx with hx | hx
  · have ab : Beats n d a b c e := by
      unfold Beats
      rw [g1, g2]
      generalize (n * b - a * d) * e = X at *
      generalize (c * d - n * e) * b = Y at *
      by_cases h1 : X < Y
      · exact .inl h1
      · right
        refine ⟨by omega, ?_⟩
        by_cases h2 : b < e
        · exact .inl h2
        · right
          have h3 : b = e := by omega
          refine ⟨h3, ?_⟩
          subst h3
          have : (c - a) * b = 1 := by grind
          rcases Int.lt_or_le c a with h4 | h4
          · have : (c - a) * b < 0 := Int.mul_neg_of_neg_of_pos (by omega) (by omega)
            omega
          · exact h4
    by_cases hu : x * b ≤ a * y
    · exact lo h1 hu
    · by_cases hv : c * y ≤ x * e
      · exact beats_trans hb he h1 ab (hh h1 hv)
      · exact (mn h2 hx hu hv).elim
  · exact ex hx h1
/-- the end: c/e where it is nearer, or as near with less below -/
theorem end_high (hi : Inv n d most a b c e) (hd : 0 < d) (hx : most < b + e ∨ a * d = n * b) (hl : (n * b - a * d) * e > (c * d - n * e) * b ∨ ((n * b - a * d) * e = (c * d - n * e) * b ∧ b > e)) : Best n d most c e := by
  have ⟨g1, g2⟩ := gaps hi
  have lo := @low_beats n d most a b c e hi hd
  have hh := @high_beats n d most a b c e hi hd
  have mn := @mid_none n d most a b c e hi
  obtain ⟨ha, hb, hc, he, hbm, hem, hp, hq, hn⟩ := hi
  have hx : most < b + e := by
    rcases hx with hx | hx
    · exact hx
    · have h0 : (n * b - a * d) * e = 0 := by
        have : n * b - a * d = 0 := by omega
        rw [this, Int.zero_mul]
      have h1 : 0 < (c * d - n * e) * b := Int.mul_pos (by omega) (by omega)
      omega
  refine ⟨hc, he, hem, fun x y h0 h1 h2 => ?_⟩
  have ab : Beats n d c e a b := by
    unfold Beats
    rw [g1, g2]
    generalize (n * b - a * d) * e = X at *
    generalize (c * d - n * e) * b = Y at *
    omega
  by_cases hu : x * b ≤ a * y
  · exact beats_trans he hb h1 ab (lo h1 hu)
  · by_cases hv : c * y ≤ x * e
    · exact hh h1 hv
    · exact (mn h2 hx hu hv).elim
/-- the start -/
theorem inv_start (hn : 0 ≤ n) (hd : 0 < d) (hm : 1 ≤ most) : Inv n d most (n.fdiv d) 1 (n.fdiv d + 1) 1 := by
  have h1 := Int.fdiv_mul_add_fmod n d
  have h2 := Int.fmod_lt_of_pos n hd
  have h3 := Int.fmod_nonneg_of_pos n hd
  have h4 : 0 ≤ n.fdiv d := Int.fdiv_nonneg hn (by omega)
  have h5 : (n.fdiv d + 1) * d = n.fdiv d * d + d := by rw [Int.add_mul, Int.one_mul]
  refine ⟨h4, by omega, by omega, by omega, hm, hm, ?_, ?_, ?_⟩
  · rw [Int.mul_one]; omega
  · rw [Int.mul_one, h5]; omega
  · omega
theorem fdiv_le_mul {x y : Int} (hy : 0 < y) : x.fdiv y * y ≤ x := by
  have h1 := Int.fdiv_mul_add_fmod x y
  have h3 := Int.fmod_nonneg_of_pos x hy
  omega
theorem lt_fdiv_mul {x y : Int} (hy : 0 < y) : x < x.fdiv y * y + y := by
  have h1 := Int.fdiv_mul_add_fmod x y
  have h3 := Int.fmod_lt_of_pos x hy
  omega
theorem one_le_fdiv {x y : Int} (hy : 0 < y) (h : y ≤ x) : 1 ≤ x.fdiv y := by
  have h1 := @lt_fdiv_mul x y hy
  rcases Int.lt_or_le 0 (x.fdiv y) with h2 | h2
  · omega
  · have : x.fdiv y * y ≤ 0 := Int.mul_nonpos_of_nonpos_of_nonneg h2 (by omega)
    omega
/-- the first half of a turn -/
theorem turn_a (hi : Inv n d most a b c e) {k : Int} (hk : 0 ≤ k) (h1 : k * (c * d - n * e) ≤ n * b - a * d) (h2 : k * e ≤ most - b) : Inv n d most (a + k * c) (b + k * e) c e := by
  obtain ⟨ha, hb, hc, he, hbm, hem, hp, hq, hn⟩ := hi
  have k1 : 0 ≤ k * c := Int.mul_nonneg hk hc
  have k2 : 0 ≤ k * e := Int.mul_nonneg hk (by omega)
  refine ⟨by omega, by omega, hc, he, by omega, hem, ?_, hq, ?_⟩
  · have : n * (b + k * e) - (a + k * c) * d = (n * b - a * d) - k * (c * d - n * e) := by grind
    omega
  · have : c * (b + k * e) - (a + k * c) * e = c * b - a * e := by grind
    omega
/-- the second half -/
theorem turn_c (hi : Inv n d most a b c e) {k : Int} (hk : 0 ≤ k) (h1 : k * (n * b - a * d) ≤ c * d - n * e - 1) (h2 : k * b ≤ most - e) : Inv n d most a b (c + k * a) (e + k * b) := by
  obtain ⟨ha, hb, hc, he, hbm, hem, hp, hq, hn⟩ := hi
  have k1 : 0 ≤ k * a := Int.mul_nonneg hk ha
  have k2 : 0 ≤ k * b := Int.mul_nonneg hk (by omega)
  refine ⟨ha, hb, by omega, by omega, hbm, by omega, hp, ?_, ?_⟩
  · have : (c + k * a) * d - n * (e + k * b) = (c * d - n * e) - k * (n * b - a * d) := by grind
    omega
  · have : (c + k * a) * b - a * (e + k * b) = c * b - a * e := by grind
    omega
theorem inv_le (h : Inv n d most a b c e) : n * b - a * d ≤ d ∧ c * d - n * e ≤ d := by
  have hd := inv_d h
  obtain ⟨ha, hb, hc, he, hbm, hem, hp, hq, hn⟩ := h
  have h1 : 0 ≤ e * (n * b - a * d) := Int.mul_nonneg (by omega) hp
  have h2 : 0 ≤ b * (c * d - n * e) := Int.mul_nonneg (by omega) (by omega)
  have h3 : 1 * (n * b - a * d) ≤ e * (n * b - a * d) := Int.mul_le_mul_of_nonneg_right he hp
  have h4 : 1 * (c * d - n * e) ≤ b * (c * d - n * e) := Int.mul_le_mul_of_nonneg_right hb (by omega)
  omega
/-- what the walk asks of the frame -/
def Facts (n d most a b c e : Int) : Prop := Inv n d most a b c e ∧ 1 ≤ b ∧ b ≤ most ∧ 1 ≤ e ∧ e ≤ most ∧ 0 ≤ n * b - a * d ∧ n * b - a * d ≤ d ∧ 0 < c * d - n * e ∧ c * d - n * e ≤ d
theorem facts_of (h : Inv n d most a b c e) : Facts n d most a b c e := by
  have h1 := inv_le h
  have h2 := h
  obtain ⟨ha, hb, hc, he, hbm, hem, hp, hq, hn⟩ := h
  exact ⟨h2, hb, hbm, he, hem, hp, h1.1, hq, h1.2⟩
theorem step_a (h : Inv n d most a b c e) (h1 : b + e ≤ most) {k : Int} (k1 : k ≤ (n * b - a * d).fdiv (c * d - n * e)) (k2 : k ≤ (most - b).fdiv e) (k3 : k = (n * b - a * d).fdiv (c * d - n * e) ∨ k = (most - b).fdiv e) :
    Facts n d most (a + k * c) (b + k * e) c e ∧ 0 ≤ k ∧ k ≤ most ∧ b ≤ b + k * e ∧ (k = 0 → n * b - a * d < c * d - n * e) ∧ (1 ≤ k → b < b + k * e) := by
  have h' := h
  obtain ⟨ha, hb, hc, he, hbm, hem, hp, hq, hn⟩ := h'
  have q1 : 0 ≤ (n * b - a * d).fdiv (c * d - n * e) := Int.fdiv_nonneg hp (by omega)
  have q2 : 1 ≤ (most - b).fdiv e := one_le_fdiv (by omega) (by omega)
  have k0 : 0 ≤ k := by omega
  have m1 := @fdiv_le_mul (n * b - a * d) (c * d - n * e) hq
  have m2 := @fdiv_le_mul (most - b) e (by omega)
  have m3 : k * (c * d - n * e) ≤ (n * b - a * d).fdiv (c * d - n * e) * (c * d - n * e) := Int.mul_le_mul_of_nonneg_right k1 (by omega)
  have m4 : k * e ≤ (most - b).fdiv e * e := Int.mul_le_mul_of_nonneg_right k2 (by omega)
  have m5 : k * 1 ≤ k * e := Int.mul_le_mul_of_nonneg_left he k0
  refine ⟨facts_of (turn_a h k0 (by omega) (by omega)), k0, by omega, by omega, fun kz => ?_, fun _ => by omega⟩
  have kq : (n * b - a * d).fdiv (c * d - n * e) = 0 := by omega
  have := @lt_fdiv_mul (n * b - a * d) (c * d - n * e) hq
  rw [kq, Int.zero_mul] at this
  omega
theorem step_c (h : Inv n d most a b c e) (hz : a * d ≠ n * b) {k : Int} (k1 : k ≤ (c * d - n * e - 1).fdiv (n * b - a * d)) (k2 : k ≤ (most - e).fdiv b) (k3 : k = (c * d - n * e - 1).fdiv (n * b - a * d) ∨ k = (most - e).fdiv b) :
    Facts n d most a b (c + k * a) (e + k * b) ∧ 0 ≤ k ∧ k ≤ most ∧ e ≤ e + k * b ∧ (n * b - a * d < c * d - n * e → b + e ≤ most → e < e + k * b) := by
  have h' := h
  obtain ⟨ha, hb, hc, he, hbm, hem, hp, hq, hn⟩ := h'
  have hp1 : 0 < n * b - a * d := by omega
  have q1 : 0 ≤ (c * d - n * e - 1).fdiv (n * b - a * d) := Int.fdiv_nonneg (by omega) (by omega)
  have q2 : 0 ≤ (most - e).fdiv b := Int.fdiv_nonneg (by omega) (by omega)
  have k0 : 0 ≤ k := by omega
  have m1 := @fdiv_le_mul (c * d - n * e - 1) (n * b - a * d) hp1
  have m2 := @fdiv_le_mul (most - e) b (by omega)
  have m3 : k * (n * b - a * d) ≤ (c * d - n * e - 1).fdiv (n * b - a * d) * (n * b - a * d) := Int.mul_le_mul_of_nonneg_right k1 (by omega)
  have m4 : k * b ≤ (most - e).fdiv b * b := Int.mul_le_mul_of_nonneg_right k2 (by omega)
  have m5 : k * 1 ≤ k * b := Int.mul_le_mul_of_nonneg_left hb k0
  refine ⟨facts_of (turn_c h k0 (by omega) (by omega)), k0, by omega, by omega, fun hl hm => ?_⟩
  have r1 : 1 ≤ (c * d - n * e - 1).fdiv (n * b - a * d) := one_le_fdiv hp1 (by omega)
  have r2 : 1 ≤ (most - e).fdiv b := one_le_fdiv (by omega) (by omega)
  omega
/-- the measure falls -/
theorem meas_then (h1 : b + e ≤ most) {k k2 : Int} (g1 : b ≤ b + k * e) (g2 : k = 0 → n * b - a * d < c * d - n * e) (g3 : 1 ≤ k → b < b + k * e) (g0 : 0 ≤ k) (f1 : e ≤ e + k2 * (b + k * e)) (f2 : n * (b + k * e) - (a + k * c) * d < c * d - n * e → b + k * e + e ≤ most → e < e + k2 * (b + k * e)) (hm : e + k2 * (b + k * e) ≤ most) (hm2 : b + k * e ≤ most) :
    (2 * most - (b + k * e) - (e + k2 * (b + k * e))).toNat < (2 * most - b - e).toNat := by
  by_cases hk : k = 0
  · have l := g2 hk
    subst hk
    simp only [Int.zero_mul, Int.add_zero] at *
    have := f2 l h1
    omega
  · have := g3 (by omega)
    omega
theorem meas_else (h1 : b + e ≤ most) (hz : a * d ≠ n * b) {k : Int} (g3 : 1 ≤ k → b < b + k * e) (g0 : 0 ≤ k) (hx : (a + k * c) * d = n * (b + k * e)) (hm2 : b + k * e ≤ most) (he : e ≤ most) :
    (2 * most - (b + k * e) - e).toNat < (2 * most - b - e).toNat := by
  by_cases hk : k = 0
  · subst hk
    simp only [Int.zero_mul, Int.add_zero] at *
    exact absurd hx hz
  · have := g3 (by omega)
    omega
section
variable {P Q i q : Int}
/-- the quotient: its two sides -/
theorem quo_sides {y : Int} (hQ : 0 < Q) (hq : q = (P * y).fdiv Q) : q * Q ≤ P * y ∧ P * y < q * Q + Q := by
  subst hq
  exact ⟨fdiv_le_mul hQ, lt_fdiv_mul hQ⟩
theorem cand_low {y x : Int} (hQ : 0 < Q) (hq : q = (P * y).fdiv Q) (hy : 1 ≤ y) (hx : x ≤ q) : Beats P Q q y x y := by
  obtain ⟨h1, h2⟩ := quo_sides hQ hq
  have g1 : gap P Q q y = P * y - q * Q := gap_of' (by omega) (by omega)
  have h3 : x * Q ≤ q * Q := Int.mul_le_mul_of_nonneg_right hx (by omega)
  have g2 : gap P Q x y = P * y - x * Q := gap_of' (by omega) (by omega)
  unfold Beats
  by_cases h : x = q
  · subst h
    right
    exact ⟨rfl, .inr ⟨rfl, by omega⟩⟩
  · left
    refine Int.mul_lt_mul_of_pos_right ?_ (by omega)
    have h4 : (x + 1) * Q ≤ q * Q := Int.mul_le_mul_of_nonneg_right (by omega) (by omega)
    rw [Int.add_mul, Int.one_mul] at h4
    omega
theorem cand_high {y x : Int} (hQ : 0 < Q) (hq : q = (P * y).fdiv Q) (hy : 1 ≤ y) (hx : q + 1 ≤ x) : Beats P Q (q + 1) y x y := by
  obtain ⟨h1, h2⟩ := quo_sides hQ hq
  have e : (q + 1) * Q = q * Q + Q := by rw [Int.add_mul, Int.one_mul]
  have g1 : gap P Q (q + 1) y = (q + 1) * Q - P * y := gap_of (by omega) (by omega)
  have h3 : (q + 1) * Q ≤ x * Q := Int.mul_le_mul_of_nonneg_right hx (by omega)
  have g2 : gap P Q x y = x * Q - P * y := gap_of (by omega) (by omega)
  unfold Beats
  by_cases h : x = q + 1
  · subst h
    right
    exact ⟨rfl, .inr ⟨rfl, by omega⟩⟩
  · left
    refine Int.mul_lt_mul_of_pos_right ?_ (by omega)
    have h4 : (q + 1 + 1) * Q ≤ x * Q := Int.mul_le_mul_of_nonneg_right (by omega) (by omega)
    rw [Int.add_mul, Int.one_mul] at h4
    omega
/-- who beats both of the new line and the old best is the best -/
theorem best_next {a b : Int} (hQ : 0 < Q) (hi : 0 ≤ i) (hq : q = (P * (1 + i)).fdiv Q) (ha : 0 ≤ a) (hb : 1 ≤ b) (hbi : b ≤ i + 1) (h1 : Beats P Q a b q (1 + i)) (h2 : Beats P Q a b (q + 1) (1 + i)) (h3 : ∀ x y, 0 ≤ x → 1 ≤ y → y ≤ i → Beats P Q a b x y) : Best P Q (i + 1) a b := by
  refine ⟨ha, hb, hbi, fun x y h4 h5 h6 => ?_⟩
  by_cases h7 : y ≤ i
  · exact h3 x y h4 h5 h7
  · have e : y = 1 + i := by omega
    subst e
    by_cases h8 : x ≤ q
    · exact beats_trans hb h5 h5 h1 (cand_low hQ hq h5 h8)
    · exact beats_trans hb h5 h5 h2 (cand_high hQ hq h5 (by omega))
variable {a b g g1 g2 : Int}
theorem beats_lt {x y : Int} (h : gap P Q a b * y < gap P Q x y * b) : Beats P Q a b x y := .inl h
theorem beats_keep {x y : Int} (h : ¬ gap P Q x y * b < gap P Q a b * y) (hb : b < y ∨ (b = y ∧ a ≤ x)) : Beats P Q a b x y := by
  unfold Beats
  omega
theorem quo_nonneg (hP : 0 ≤ P) (hQ : 0 < Q) (hi : 0 ≤ i) (hq : q = (P * (1 + i)).fdiv Q) : 0 ≤ q := by
  subst hq
  exact Int.fdiv_nonneg (Int.mul_nonneg hP (by omega)) (by omega)
end
section
variable {P Q i q a b g g1 g2 : Int}
/-- half a turn: the old line and the lower new one are beaten -/
def Mid (P Q i q a b : Int) : Prop := 0 ≤ a ∧ 1 ≤ b ∧ b ≤ i + 1 ∧ (b = 1 + i → a ≤ q) ∧ Beats P Q a b q (1 + i) ∧ ∀ x y, 0 ≤ x → 1 ≤ y → y ≤ i → Beats P Q a b x y
theorem mid_first (hP : 0 ≤ P) (hQ : 0 < Q) (hq : q = (P * (1 + 0)).fdiv Q) : Mid P Q 0 q q (1 + 0) :=
  ⟨quo_nonneg hP hQ (by omega) hq, by omega, by omega, fun _ => by omega, cand_low hQ hq (by omega) (by omega), fun x y _ h1 h2 => by omega⟩
theorem mid_take (hB : Best P Q i a b) (hP : 0 ≤ P) (hQ : 0 < Q) (hq : q = (P * (1 + i)).fdiv Q) (hg : g = gap P Q a b) (hg1 : g1 = gap P Q q (1 + i)) (h1 : g1 * b < g * (1 + i)) : Mid P Q i q q (1 + i) := by
  obtain ⟨b1, b2, b3, b4⟩ := hB
  subst hg
  have hb : Beats P Q q (1 + i) a b := by rw [hg1] at h1; exact beats_lt h1
  exact ⟨quo_nonneg hP hQ (by omega) hq, by omega, by omega, fun _ => by omega, cand_low hQ hq (by omega) (by omega), fun x y h4 h5 h6 => beats_trans (by omega) b2 h5 hb (b4 x y h4 h5 h6)⟩
theorem mid_keep (hB : Best P Q i a b) (hg : g = gap P Q a b) (hg1 : g1 = gap P Q q (1 + i)) (h1 : ¬ g1 * b < g * (1 + i)) : Mid P Q i q a b := by
  obtain ⟨b1, b2, b3, b4⟩ := hB
  subst hg; subst hg1
  exact ⟨b1, b2, by omega, fun h => by omega, beats_keep h1 (.inl (by omega)), b4⟩
theorem mid_high (hM : Mid P Q i q a b) (hP : 0 ≤ P) (hQ : 0 < Q) (hi : 0 ≤ i) (hq : q = (P * (1 + i)).fdiv Q) (hg : g = gap P Q a b) (hg2 : g2 = gap P Q (q + 1) (1 + i)) (h2 : g2 * b < g * (1 + i)) : Best P Q (i + 1) (q + 1) (1 + i) := by
  obtain ⟨b1, b2, b3, b4, b5, b6⟩ := hM
  subst hg; subst hg2
  have hq0 := quo_nonneg hP hQ hi hq
  have hb : Beats P Q (q + 1) (1 + i) a b := beats_lt h2
  exact best_next hQ hi hq (by omega) (by omega) (by omega) (beats_trans (by omega) b2 (by omega) hb b5) (cand_high hQ hq (by omega) (by omega)) (fun x y h4 h5 h6 => beats_trans (by omega) b2 h5 hb (b6 x y h4 h5 h6))
theorem mid_end (hM : Mid P Q i q a b) (hQ : 0 < Q) (hi : 0 ≤ i) (hq : q = (P * (1 + i)).fdiv Q) (hg : g = gap P Q a b) (hg2 : g2 = gap P Q (q + 1) (1 + i)) (h2 : ¬ g2 * b < g * (1 + i)) : Best P Q (i + 1) a b := by
  obtain ⟨b1, b2, b3, b4, b5, b6⟩ := hM
  subst hg; subst hg2
  refine best_next hQ hi hq b1 b2 (by omega) b5 (beats_keep h2 ?_) b6
  by_cases h : b = 1 + i
  · exact .inr ⟨h, by have := b4 h; omega⟩
  · exact .inl (by omega)
end
end
end Aq
end

/-! ## Doubles: what is exact -/
section
open PySem PySem.W PyProof.Rows
namespace Aq
open PySem.Float64
/-- a finite double: its sign, its size in units of 2^-1074 -/
def Fin0 (sg : Bool) (x : UInt64) (v : Nat) : Prop := ∃ m e, Float64.decode x = .fin sg m e ∧ m * 2 ^ (e + 1074).toNat = v

theorem V_onto : ∀ (j u : Nat), u < 2 ^ 53 → ∃ t, V t = u * 2 ^ j
  | 0, u, h => ⟨u, by have := V_at (k := 0) (q := u) (by omega) (.inr rfl); simpa using this⟩
  | j + 1, u, h => by
    by_cases h2 : 2 ^ 52 ≤ u
    · exact ⟨(j + 1) * 2 ^ 52 + u, V_at (by omega) (.inl h2)⟩
    · obtain ⟨t, ht⟩ := V_onto j (2 * u) (by omega)
      exact ⟨t, by rw [ht, Nat.pow_succ]; ac_rfl⟩

theorem right_exact {r : UInt64} {neg : Bool} {W D v u j : Nat} (h : Right r neg W D) (hD : 0 < D) (hW : W = D * v) (hv : v = u * 2 ^ j) (hu : u < 2 ^ 53) (hb : v < 2 ^ 2045) : Fin0 neg r v := by
  obtain ⟨t, hr, ht, hi, hn⟩ := h
  have hlt : t < infMag := by
    rcases Nat.lt_or_ge t infMag with h | h
    · exact h
    · have e : t = infMag := by omega
      have h1 := hi.mp e
      rw [hW] at h1
      have h2 : D * ((2 ^ 54 - 1) * 2 ^ 2045) ≤ D * (2 * v) := by
        have : 2 * (D * v) = D * (2 * v) := by ac_rfl
        omega
      have h3 := Nat.le_of_mul_le_mul_left h2 hD
      generalize (2 : Nat) ^ 2045 = K at *
      omega
  obtain ⟨t', ht'⟩ := V_onto j u hu
  have h1 := (hn hlt t').1
  rw [hW, ht', ← hv] at h1
  have h2 : dist (D * v) (D * v) = 0 := by unfold dist; omega
  rw [h2] at h1
  have h3 : D * v = D * V t := by unfold dist at h1; omega
  have h4 : v = V t := Nat.eq_of_mul_eq_mul_left hD h3
  obtain ⟨m, e, hd, hm⟩ := decode_pack neg hlt
  exact ⟨m, e, by rw [hr]; exact hd, by rw [hm, h4]⟩

theorem decode_lt {x : UInt64} {a : Bool} {m : Nat} {e : Int} (h : decode x = .fin a m e) : m < 2 ^ 53 := by
  unfold decode at h
  simp only at h
  split at h
  · split at h <;> cases h
  · split at h
    · cases h; omega
    · cases h; omega

theorem fin0_val {sg : Bool} {x : UInt64} {v : Nat} (h : Fin0 sg x v) : val x = sgn sg v := by
  obtain ⟨m, e, hd, hm⟩ := h
  rw [val_eq hd, hm]

theorem two_fin : Fin0 false (ofInt 2) (2 * 2 ^ 1074) := by
  have h := ofInt_right 2
  exact right_exact (u := 1) (j := 1075) h (by decide) (by simp) (by rw [Nat.pow_succ]; omega) (by decide) (by
    have : (2 : Nat) * 2 ^ 1074 = 2 ^ 1075 := by rw [Nat.pow_succ]; omega
    rw [this]
    exact Nat.pow_lt_pow_right (by decide) (by decide))

theorem mul_two {x : UInt64} {v : Nat} (h : Fin0 false x v) (hb : 2 * v < 2 ^ 2045) : Fin0 false (mul x (ofInt 2)) (2 * v) := by
  have h2 := two_fin
  have hv2 := fin0_val h2
  have hv := fin0_val h
  obtain ⟨m, e, hd, hm⟩ := h
  obtain ⟨k, f, hk, _⟩ := h2
  have hr := mul_right hd hk
  rw [hv, hv2] at hr
  have e1 : (sgn false v).natAbs = v := by simp [sgn]
  have e2 : (sgn false (2 * 2 ^ 1074)).natAbs = 2 * 2 ^ 1074 := by
    rw [sgn_natAbs]
  rw [e1, e2] at hr
  refine right_exact (u := m) (j := (e + 1074).toNat + 1) hr (Nat.two_pow_pos _) ?_ ?_ (decode_lt hd) hb
  · generalize (2 : Nat) ^ 1074 = K
    ac_rfl
  · rw [Nat.pow_succ, ← hm]; ac_rfl

theorem frac_fin {neg : Bool} {n d v u j : Nat} (hd : 0 < d) (hn : n * 2 ^ 1074 = v * d) (hv : v = u * 2 ^ j) (hu : u < 2 ^ 53) (hb : v < 2 ^ 2045) : Fin0 neg (ofFrac neg n d) v := by
  have h := ofFrac_right (neg := neg) (n := n) (d := d) (W := v) (D := 1) hd (by rw [Nat.mul_one]; exact hn) (by decide)
  exact right_exact h (by decide) (by simp) hv hu hb

theorem decode_abs {x : UInt64} {sg : Bool} {m : Nat} {e : Int} (h : decode x = .fin sg m e) : decode (Float64.abs x) = .fin false m e := by
  have hn : Float64.isNaN x = false := by unfold Float64.isNaN; rw [h]
  have ha : Float64.abs x = pack false (x.toNat % 2 ^ 63) := by unfold Float64.abs; rw [hn]; rfl
  have ht : (Float64.abs x).toNat = x.toNat % 2 ^ 63 := by
    rw [ha, pack_toNat false (by omega)]; simp
  have e1 : (Float64.abs x).toNat / 2 ^ 63 = 0 := by rw [ht]; omega
  have e2 : (Float64.abs x).toNat / 2 ^ 52 % 2048 = x.toNat / 2 ^ 52 % 2048 := by
    rw [ht]; omega
  have e3 : (Float64.abs x).toNat % 2 ^ 52 = x.toNat % 2 ^ 52 := by rw [ht]; omega
  unfold decode at h ⊢
  simp only [e1, e2, e3] at h ⊢
  split at h
  · split at h <;> cases h
  · rename_i h1
    rw [if_neg h1]
    split at h
    · rename_i h2
      rw [if_pos h2]
      cases h; rfl
    · rename_i h2
      rw [if_neg h2]
      cases h; rfl
theorem abs_fin {x : UInt64} {sg : Bool} {v : Nat} (h : Fin0 sg x v) : Fin0 false (Float64.abs x) v := by
  obtain ⟨m, e, hd, hm⟩ := h
  exact ⟨m, e, decode_abs hd, hm⟩


/-- the same, counted in units of 2^-60 -/
def FlV (sg : Bool) (x : UInt64) (M : Nat) : Prop := Fin0 sg x (M * 2 ^ 1014)

theorem pow_split : (2 : Nat) ^ 1074 = 2 ^ 60 * 2 ^ 1014 := by rw [← Nat.pow_add]

theorem trunc_fin {x : UInt64} {m : Nat} {e : Int} {v : Nat} (hd : decode x = .fin false m e) (hm : m * 2 ^ (e + 1074).toNat = v) : truncOf false m e = ((v / 2 ^ 1074 : Nat) : Int) := by
  have he := decode_ge hd
  unfold truncOf floorOf
  simp only [Bool.false_eq_true, if_false]
  by_cases h : e ≥ 0
  · rw [if_pos h]
    have e1 : (e + 1074).toNat = e.toNat + 1074 := by omega
    rw [e1, Nat.pow_add, ← Nat.mul_assoc] at hm
    rw [← hm, Nat.mul_div_cancel _ (Nat.two_pow_pos _)]
    simp [sgn]
  · rw [if_neg h]
    have e1 : (2 : Nat) ^ 1074 = 2 ^ (-e).toNat * 2 ^ (e + 1074).toNat := by
      rw [← Nat.pow_add]
      congr 1
      omega
    rw [← hm, e1, Nat.mul_div_mul_right _ _ (Nat.two_pow_pos _)]
    simp only [sgn, Bool.false_eq_true, if_false]
    have e2 : ((2 : Int) ^ (-e).toNat) = ((2 ^ (-e).toNat : Nat) : Int) := by simp
    rw [e2, Int.ofNat_fdiv]

theorem flv_trunc {x : UInt64} {M : Nat} (h : FlV false x M) : ∃ m e, decode x = .fin false m e ∧ truncOf false m e = ((M / 2 ^ 60 : Nat) : Int) := by
  obtain ⟨m, e, hd, hm⟩ := h
  refine ⟨m, e, hd, ?_⟩
  rw [trunc_fin hd hm, pow_split, Nat.mul_div_mul_right _ _ (Nat.two_pow_pos _)]

theorem flv_cmp {sg : Bool} {x : UInt64} {M : Nat} (h : FlV sg x M) (i : Int) : cmpInt x i = some (compare (sgn sg M) (i * 2 ^ 60)) := by
  have hv := fin0_val h
  obtain ⟨m, e, hd, hm⟩ := h
  rw [cmpInt_right hd, hv]
  congr 1
  have e1 : (2 : Int) ^ 1074 = 2 ^ 60 * 2 ^ 1014 := by rw [← Int.pow_add]
  have e2 : sgn sg (M * 2 ^ 1014) = sgn sg M * 2 ^ 1014 := by
    rw [sgn_mul]
    congr 1
  rw [e1, e2, ← Int.mul_assoc]
  have hK : (0 : Int) < 2 ^ 1014 := Int.pow_pos (by decide)
  generalize (2 : Int) ^ 1014 = K at *
  generalize i * 2 ^ 60 = q
  generalize sgn sg M = p
  rcases Int.lt_trichotomy p q with h | h | h
  · rw [Int.compare_eq_lt.mpr h, Int.compare_eq_lt.mpr (Int.mul_lt_mul_of_pos_right h hK)]
  · subst h; simp
  · rw [Int.compare_eq_gt.mpr h, Int.compare_eq_gt.mpr (Int.mul_lt_mul_of_pos_right h hK)]

section
open PySem.Flt PySem.AutoFloatOps
variable {prog : Program} {w : World} {A : Around} {E : Value → Shared → Prop} {s : Shared} {x : UInt64} {M : Nat} {t u : Tok} {Q : Value → Shared → Prop} {sg : Bool}
theorem r_int (h : FlV false x M) (k : Q (.int ((M / 2 ^ 60 : Nat) : Int) s.toks) { s with toks := s.toks + 1 }) : wpAny (model prog w) A (call (.type "int") [.float x t]) Q E s := by
  obtain ⟨m, e, hd, ht⟩ := flv_trunc h
  exact call_int_float hd (by rw [ht]; exact k)
theorem r_ne {i : Int} (h : FlV false x M) (hi : i = ((M / 2 ^ 60 : Nat) : Int)) (k : Q (.bool (decide (M % 2 ^ 60 ≠ 0))) s) : wpAny (model prog w) A (compareOp .NotEq (.float x t) (.int i u)) Q E s := by
  refine ne_fi ?_
  rw [flv_cmp h]
  have e : (some (compare (sgn false M) (i * 2 ^ 60)) != some Ordering.eq) = decide (M % 2 ^ 60 ≠ 0) := by
    have e1 : sgn false M = (M : Int) := by simp [sgn]
    rw [e1]
    by_cases hm : M % 2 ^ 60 = 0
    · have : (M : Int) = i * 2 ^ 60 := by omega
      rw [this]
      simp [hm]
    · have h2 : ((M : Int)) ≠ i * 2 ^ 60 := by omega
      have h3 : compare (M : Int) (i * 2 ^ 60) ≠ Ordering.eq := fun hc => h2 (Int.compare_eq_eq.mp hc)
      rw [decide_eq_true hm]
      simpa using h3
  rw [e]
  exact k
theorem r_ge0 (h : FlV sg x M) (k : Q (.bool (decide (sg = false ∨ M = 0))) s) : wpAny (model prog w) A (compareOp .GtE (.float x t) (.int 0 u)) Q E s := by
  refine ge_fi ?_
  rw [flv_cmp h]
  have e : (some (compare (sgn sg M) (0 * 2 ^ 60)) == some Ordering.gt || some (compare (sgn sg M) (0 * 2 ^ 60)) == some Ordering.eq) = decide (sg = false ∨ M = 0) := by
    rw [Int.zero_mul]
    cases sg with
    | false =>
      have e1 : sgn false M = (M : Int) := by simp [sgn]
      rw [e1]
      by_cases hm : M = 0
      · subst hm; rfl
      · rw [Int.compare_eq_gt.mpr (by omega)]; rfl
    | true =>
      have e1 : sgn true M = -(M : Int) := by simp [sgn]
      rw [e1]
      by_cases hm : M = 0
      · subst hm; rfl
      · rw [Int.compare_eq_lt.mpr (by omega)]; simp [hm]
  rw [e]
  exact k
theorem r_abs (h : FlV sg x M) (k : ∀ y, FlV false y M → Q (.float y s.toks) { s with toks := s.toks + 1 }) : wpAny (model prog w) A (call (.builtin "abs") [.float x t]) Q E s :=
  call_abs_float (k _ (abs_fin h))
theorem small_exp {M a b : Nat} (h : M < 2 ^ a) (hab : a + 1014 ≤ b) : M * 2 ^ 1014 < 2 ^ b := by
  have h1 : M * 2 ^ 1014 < 2 ^ a * 2 ^ 1014 := Nat.mul_lt_mul_of_pos_right h (Nat.two_pow_pos _)
  rw [← Nat.pow_add] at h1
  exact Nat.lt_of_lt_of_le h1 (Nat.pow_le_pow_right (by decide) hab)
theorem r_mul2 (h : FlV false x M) (hM : M < 2 ^ 200) (k : ∀ y, FlV false y (2 * M) → Q (.float y s.toks) { s with toks := s.toks + 1 }) : wpAny (model prog w) A (binaryOp .Mult (.float x t) (.int 2 u)) Q E s := by
  refine AutoFloatOps.mul_fi_1 (by decide +kernel) (k _ ?_)
  unfold FlV at *
  have e : 2 * M * 2 ^ 1014 = 2 * (M * 2 ^ 1014) := by ac_rfl
  rw [e]
  refine mul_two h ?_
  rw [← e]
  exact small_exp (a := 201) (by rw [Nat.pow_succ]; omega) (by decide)
theorem r_div {a b : Int} (hb : 0 < b) (ha : a.natAbs < 2 ^ 200) (k : ¬ Float64.isInf (Float64.ofFrac (decide (a < 0)) a.natAbs b.natAbs) = true → Q (.float (Float64.ofFrac (decide (a < 0)) a.natAbs b.natAbs) s.toks) { s with toks := s.toks + 1 }) (hA : A.handled = none) : wpAny (model prog w) A (binaryOp .Div (.int a t) (.int b u)) Q E s := by
  have e : (decide (a < 0) != decide (b < 0)) = decide (a < 0) := by
    have : decide (b < 0) = false := by simp; omega
    rw [this]; simp
  refine div_ii_fits hA (Nat.lt_of_lt_of_le ha (Nat.pow_le_pow_right (by decide) (by decide))) (fun h => absurd h (by omega)) fun _ hi => ?_
  rw [e] at hi ⊢
  exact k hi
end
theorem flv_frac {neg : Bool} {n d M u j : Nat} (hd : 0 < d) (hn : n * 2 ^ 60 = M * d) (hM : M = u * 2 ^ j) (hu : u < 2 ^ 53) (hb : M < 2 ^ 200) : FlV neg (Float64.ofFrac neg n d) M := by
  refine frac_fin (u := u) (j := j + 1014) hd ?_ ?_ hu (small_exp hb (by decide))
  · rw [pow_split, ← Nat.mul_assoc, hn]; ac_rfl
  · rw [hM, Nat.pow_add]; ac_rfl

/-- the doubles of (base * odd + 1) / odd: near enough -/
def oddOk (p q : Nat) : Bool := match Float64.decode (Float64.ofFrac false p q) with
  | .fin false m e => decide (-60 ≤ e) && decide (e ≤ 0) && (let M := m * 2 ^ (e + 60).toNat; decide (18 * (M * q - p * 2 ^ 60) < 2 ^ 60) && decide (18 * (p * 2 ^ 60 - M * q) < 2 ^ 60))
  | _ => false
theorem odd_all : ((List.range 40).all fun b => [1, 3, 5, 7, 9].all fun q => oddOk (b * q + 1) q) = true := by decide +kernel
theorem odd_flv {p q : Nat} (h : oddOk p q = true) : ∃ M, FlV false (Float64.ofFrac false p q) M ∧ 18 * (M * q - p * 2 ^ 60) < 2 ^ 60 ∧ 18 * (p * 2 ^ 60 - M * q) < 2 ^ 60 := by
  unfold oddOk at h
  split at h
  · rename_i m e hd
    simp only [Bool.and_eq_true, decide_eq_true_eq] at h
    obtain ⟨⟨h1, h2⟩, h3, h4⟩ := h
    refine ⟨m * 2 ^ (e + 60).toNat, ⟨m, e, hd, ?_⟩, h3, h4⟩
    rw [Nat.mul_assoc, ← Nat.pow_add]
    congr 2
    omega
  · cases h
end Aq
end

/-! ## The head: the run of the top -/
section
open PySem PySem.W PyProof.Rows
namespace Aq
open_top hd for PySem.Challenge.rw_aq6037_01
end Aq
end

/-! ## Common -/
section
open PySem PySem.W PyProof.Rows PySem.Calls PySem.Spec PyProof.V
namespace Aq
theorem news_drop {h₀ h : Heap} {L : Addr} {q : Addr × Obj} {l l' : List (Addr × Obj)} (N : News h₀ L h (q :: l)) (hs : ∀ p ∈ l', p ∈ l) : News h₀ L h (q :: l') := fun p hp => by
  rcases List.mem_cons.mp hp with rfl | hp
  · exact N _ (.head _)
  · exact N p (.tail _ (hs p hp))

end Aq
end

/-! ## The plain law, joined to the doubles -/
section
open PySem PySem.W PyProof.Rows PySem.Calls PySem.Spec PyProof.V
namespace Aq
/-- a whole number over a power of two is told exactly -/
theorem dyadic {x P l : Int} {p : Nat} (hx : x = P ∨ x = -P) (h0 : 0 ≤ P) (h1 : P ≤ 2 ^ 20) (hp : p ≤ 6) (hl : l = 2 ^ p) :
    ∃ V, FlV (decide (x < 0)) (Float64.ofFrac (decide (x < 0)) x.natAbs l.natAbs) V ∧ V < 2 ^ 100 ∧ (V : Int) * l = P * 2 ^ 60 := by
  have e1 : x.natAbs = P.natAbs := by omega
  have e2 : l.natAbs = 2 ^ p := by rw [hl]; simp [Int.natAbs_pow]
  have e3 : 2 ^ (60 - p) * 2 ^ p = (2 : Nat) ^ 60 := by rw [← Nat.pow_add]; congr 1; omega
  have h2 : P.natAbs * 2 ^ (60 - p) ≤ 2 ^ 20 * 2 ^ 60 := Nat.mul_le_mul (by omega) (Nat.pow_le_pow_right (by decide) (by omega))
  refine ⟨P.natAbs * 2 ^ (60 - p), ?_, ?_, ?_⟩
  · rw [e1, e2]
    refine flv_frac (u := P.natAbs) (j := 60 - p) (Nat.two_pow_pos p) ?_ rfl (by omega) ?_
    · rw [Nat.mul_assoc, e3]
    · have : (2 : Nat) ^ 20 * 2 ^ 60 < 2 ^ 200 := by decide
      omega
  · have : (2 : Nat) ^ 20 * 2 ^ 60 < 2 ^ 100 := by decide
    omega
  · have e4 : l = ((2 ^ p : Nat) : Int) := by rw [hl]; simp
    have e5 : (P.natAbs : Int) = P := by omega
    rw [e4, ← Int.natCast_mul, Nat.mul_assoc, e3, Int.natCast_mul, e5]
    rfl
theorem odd_double {base odd : Int} (h0 : 0 ≤ base) (h1 : base < 40) (ho : odd = 1 ∨ odd = 3 ∨ odd = 5 ∨ odd = 7 ∨ odd = 9) :
    ∃ V, FlV (decide (base * odd + 1 < 0)) (Float64.ofFrac (decide (base * odd + 1 < 0)) (base * odd + 1).natAbs odd.natAbs) V ∧ V < 2 ^ 100 ∧ 18 * (V * odd - (base * odd + 1) * 2 ^ 60) < 2 ^ 60 ∧ 18 * ((base * odd + 1) * 2 ^ 60 - V * odd) < 2 ^ 60 := by
  have hp : 0 ≤ base * odd := Int.mul_nonneg h0 (by omega)
  have e0 : decide (base * odd + 1 < 0) = false := by simp; omega
  have key : ∀ q : Nat, q ∈ [1, 3, 5, 7, 9] → oddOk (base.toNat * q + 1) q = true := by
    intro q hq
    have h := odd_all
    rw [List.all_eq_true] at h
    have h2 := h base.toNat (List.mem_range.mpr (by omega))
    rw [List.all_eq_true] at h2
    exact h2 q hq
  have hq : odd.toNat ∈ [1, 3, 5, 7, 9] := by
    rcases ho with h | h | h | h | h <;> subst h <;> decide
  obtain ⟨V, hV, h3, h4⟩ := odd_flv (key _ hq)
  have eo : ((odd.toNat : Nat) : Int) = odd := by omega
  have eb : ((base.toNat : Nat) : Int) = base := by omega
  have en : (base * odd + 1).natAbs = base.toNat * odd.toNat + 1 := by
    have : ((base.toNat * odd.toNat + 1 : Nat) : Int) = base * odd + 1 := by rw [Int.natCast_add, Int.natCast_mul, eo, eb]; rfl
    omega
  have e2 : odd.natAbs = odd.toNat := by omega
  refine ⟨V, by rw [e0, en, e2]; exact hV, ?_, ?_, ?_⟩
  · rcases ho with h | h | h | h | h <;> subst h <;> simp at h3 h4 <;> omega
  · rcases ho with h | h | h | h | h <;> subst h <;> simp at h3 h4 <;> omega
  · rcases ho with h | h | h | h | h <;> subst h <;> simp at h3 h4 <;> omega

theorem best_zero {Q most a b : Int} (hQ : 0 < Q) (hm : 1 ≤ most) (h : Best 0 Q most a b) : a = 0 := by
  obtain ⟨h1, h2, h3, h4⟩ := h
  have g0 : gap 0 Q 0 1 = 0 := by simp [gap]
  have g1 : gap 0 Q a b = a * Q := gap_of (by rw [Int.zero_mul]; omega) (Int.mul_nonneg h1 (by omega))
  have h5 := h4 0 1 (by omega) (by omega) hm
  unfold Beats at h5
  rw [g0, g1] at h5
  have h6 : 0 ≤ a * Q := Int.mul_nonneg h1 (by omega)
  have h7 : a * Q = 0 := by omega
  rcases Int.mul_eq_zero.mp h7 with h | h
  · exact h
  · omega
theorem best_of {V : Nat} {P l m a b : Int} (h : (V : Int) * l = P * 2 ^ 60) (hl : 0 < l) (hB : Best V (2 ^ 60) m a b) : Best P l m a b :=
  best_scale h hl (by decide) hB
theorem odd_best {V : Nat} {base odd a b : Int} (h0 : 0 ≤ base) (ho : odd = 1 ∨ odd = 3 ∨ odd = 5 ∨ odd = 7 ∨ odd = 9) (h3 : 18 * (V * odd - (base * odd + 1) * 2 ^ 60) < 2 ^ 60) (h4 : 18 * ((base * odd + 1) * 2 ^ 60 - V * odd) < 2 ^ 60)
    (hB : Best V (2 ^ 60) odd a b) : a = base * odd + 1 ∧ b = odd := by
  have hp : 0 ≤ base * odd := Int.mul_nonneg h0 (by omega)
  refine best_unique hB ⟨by omega, by omega, by omega, fun x y hx hy hyo => ?_⟩
  unfold Beats gap
  have hyc : y = 1 ∨ y = 2 ∨ y = 3 ∨ y = 4 ∨ y = 5 ∨ y = 6 ∨ y = 7 ∨ y = 8 ∨ y = 9 := by omega
  rcases Int.lt_trichotomy (x * odd) ((base * odd + 1) * y) with ht | ht | ht <;> rcases ho with h | h | h | h | h <;> subst h <;> rcases hyc with k | k | k | k | k | k | k | k | k <;> subst k <;> omega
theorem best_whole {base m a b : Int} (h0 : 0 ≤ base) (hm : 1 ≤ m) (hB : Best base 1 m a b) : a = base ∧ b = 1 := by
  refine best_unique hB ⟨h0, by omega, hm, fun x y hx hy hyo => ?_⟩
  have g0 : gap base 1 base 1 = 0 := by unfold gap; omega
  have gn := gap_nonneg base 1 x y
  unfold Beats
  rw [g0]
  by_cases hz : gap base 1 x y = 0
  · right
    rw [hz]
    refine ⟨by simp, ?_⟩
    by_cases h1 : y = 1
    · right
      subst h1
      unfold gap at hz
      omega
    · left; omega
  · left
    omega
theorem gap_mul {P Q g a b : Int} (hg : 0 ≤ g) : gap P Q (g * a) (g * b) = g * gap P Q a b := by
  unfold gap
  have e : g * a * Q - P * (g * b) = g * (a * Q - P * b) := by grind
  rw [e, Int.natAbs_mul, Int.natCast_mul, Int.natAbs_of_nonneg hg]
/-- the best is in least terms -/
theorem gcd_one {P Q m a b : Int} (hB : Best P Q m a b) : Int.gcd a b = 1 := by
  obtain ⟨h1, h2, h3, h4⟩ := hB
  have hg : 0 < Int.gcd a b := Int.gcd_pos_of_ne_zero_right a (by omega)
  obtain ⟨a', ha⟩ : (Int.gcd a b : Int) ∣ a := Int.gcd_dvd_left a b
  obtain ⟨b', hb⟩ : (Int.gcd a b : Int) ∣ b := Int.gcd_dvd_right a b
  generalize hG : Int.gcd a b = n at *
  have hn : (0 : Int) < (n : Int) := by omega
  have hb' : 1 ≤ b' := by
    rcases Int.lt_or_le 0 b' with h | h
    · exact h
    · have : (n : Int) * b' ≤ 0 := Int.mul_nonpos_of_nonneg_of_nonpos (by omega) h
      omega
  have ha' : 0 ≤ a' := by
    rcases Int.lt_or_le a' 0 with h | h
    · have : (n : Int) * a' < 0 := Int.mul_neg_of_pos_of_neg hn h
      omega
    · exact h
  have hle : b' ≤ b := by
    have : 1 * b' ≤ (n : Int) * b' := Int.mul_le_mul_of_nonneg_right (by omega) (by omega)
    omega
  have hbe := h4 a' b' ha' hb' (by omega)
  unfold Beats at hbe
  have e1 : gap P Q a b * b' = gap P Q a' b' * b := by
    have : gap P Q a b = (n : Int) * gap P Q a' b' := by
      rw [← gap_mul (by omega), ← ha, ← hb]
    rw [this]
    have : gap P Q a' b' * b = gap P Q a' b' * ((n : Int) * b') := by rw [← hb]
    rw [this]
    grind
  have hbb : b ≤ b' := by omega
  have hbe : b = b' := by omega
  have : (n : Int) * b' = 1 * b' := by omega
  have := Int.eq_of_mul_eq_mul_right (by omega) this
  omega
/-- twice the greatest tells none farther -/
theorem again_le {P Q m a b a2 b2 : Int} (h : Best P Q m a b) (h2 : Best P Q (2 * m) a2 b2) : gap P Q a2 b2 * b ≤ gap P Q a b * b2 := by
  have hb := h2.2.2.2 a b h.1 h.2.1 (by have := h.2.2.1; have := h.2.1; omega)
  unfold Beats at hb
  omega
/-- the reduced fraction is the best where its lower part may be taken -/
theorem exact_best {P l g : Int} (hP : 0 ≤ P) (hl : 1 ≤ l) (hg : g = (Int.gcd P l : Int)) : Best P l l (P.fdiv g) (l.fdiv g) := by
  have hgp : 0 < Int.gcd P l := Int.gcd_pos_of_ne_zero_right P (by omega)
  obtain ⟨a, ha⟩ : (Int.gcd P l : Int) ∣ P := Int.gcd_dvd_left P l
  obtain ⟨b, hb⟩ : (Int.gcd P l : Int) ∣ l := Int.gcd_dvd_right P l
  have hgl : ∀ y : Int, l ∣ P * y → l ∣ g * y := by
    intro y hy
    have h1 : l ∣ l * y := Int.dvd_mul_right l y
    have h2 : l ∣ (Int.gcd (P * y) (l * y) : Int) := Int.dvd_coe_gcd hy h1
    rw [Int.gcd_mul_right, Int.natCast_mul] at h2
    rw [hg]
    rcases Int.natAbs_eq y with e | e
    · rw [e]; exact h2
    · rw [e, Int.mul_neg]; exact (Int.dvd_neg).mpr h2
  rw [← hg] at ha hb
  have hg0 : 0 < g := by omega
  have eP : P.fdiv g = a := by
    conv => lhs; rw [ha, Int.mul_comm]
    exact Int.mul_fdiv_cancel _ (by omega)
  have el : l.fdiv g = b := by
    conv => lhs; rw [hb, Int.mul_comm]
    exact Int.mul_fdiv_cancel _ (by omega)
  rw [eP, el]
  have hb1 : 1 ≤ b := by
    rcases Int.lt_or_le 0 b with h | h
    · exact h
    · have : g * b ≤ 0 := Int.mul_nonpos_of_nonneg_of_nonpos (by omega) h
      omega
  have ha1 : 0 ≤ a := by
    rcases Int.lt_or_le a 0 with h | h
    · have : g * a < 0 := Int.mul_neg_of_pos_of_neg hg0 h
      omega
    · exact h
  have hble : b ≤ l := by
    have : 1 * b ≤ g * b := Int.mul_le_mul_of_nonneg_right (by omega) (by omega)
    omega
  have g0 : gap P l a b = 0 := by
    have : a * l - P * b = 0 := by
      have h1 : a * l = a * (g * b) := by rw [← hb]
      have h2 : P * b = g * a * b := by rw [← ha]
      rw [h1, h2]; grind
    unfold gap; omega
  refine ⟨ha1, hb1, hble, fun x y hx hy hyl => ?_⟩
  have gn := gap_nonneg P l x y
  unfold Beats
  rw [g0]
  by_cases hz : gap P l x y = 0
  · right
    rw [hz]
    refine ⟨by simp, ?_⟩
    have h5 : x * l = P * y := by unfold gap at hz; omega
    have h6 : l ∣ g * y := hgl y ⟨x, by rw [← h5, Int.mul_comm]⟩
    have h7 : l ≤ g * y := Int.le_of_dvd (Int.mul_pos hg0 (by omega)) h6
    have h8 : g * b ≤ g * y := by omega
    have h9 : b ≤ y := Int.le_of_mul_le_mul_left h8 hg0
    by_cases h10 : b = y
    · right
      refine ⟨h10, ?_⟩
      subst h10
      have h11 : x * l = a * l := by
        have : a * l - P * b = 0 := by unfold gap at g0; omega
        omega
      have := Int.eq_of_mul_eq_mul_right (by omega) h11
      omega
    · left; omega
  · left
    rw [Int.zero_mul]
    exact Int.mul_pos (by omega) (by omega)
theorem gcd_bounds {P l g : Int} (hl : 1 ≤ l) (hg : g = (Int.gcd P l : Int)) : 1 ≤ g ∧ g ≤ l := by
  have h1 : 0 < Int.gcd P l := Int.gcd_pos_of_ne_zero_right P (by omega)
  have h2 : (Int.gcd P l : Int) ∣ l := Int.gcd_dvd_right P l
  have h3 := Int.le_of_dvd (by omega) h2
  omega
/-- the sign of what is told -/
theorem told_neg {P l m a b A x : Int} (hm : 1 ≤ m) (hP : 0 ≤ P) (hl : 0 < l) (hB : Best P l m a b) (hx : x = -P) (hA : A = if (decide (x < 0)) = true then -a else a) : A = -1 * a := by
  by_cases h : P = 0
  · subst h
    have := best_zero hl hm hB
    subst this
    subst hx
    simpa using hA
  · have : decide (x < 0) = true := by simp; omega
    rw [this] at hA
    simp only [if_true] at hA
    omega
theorem told_pos {P a A x : Int} (hP : 0 ≤ P) (hx : x = P) (hA : A = if (decide (x < 0)) = true then -a else a) : A = 1 * a := by
  have : decide (x < 0) = false := by simp; omega
  rw [this] at hA
  simp only [Bool.false_eq_true, if_false] at hA
  omega
end Aq
end

/-! ## _law_divided -/
section
open PySem PySem.W PyProof.Rows PySem.Calls PySem.Spec PyProof.V
namespace Aq
theorem gcd_step (x y : Int) (h : 0 < y) : Int.gcd y (x.fmod y) = Int.gcd x y := by
  rw [Int.fmod_eq_emod_of_nonneg _ (by omega), Int.emod_def, Int.sub_eq_add_neg, ← Int.mul_neg, Int.gcd_add_mul_left_right, Int.gcd_comm]
theorem div_turn {x y : Int} {x0 y0 : Int} (h0 : 0 ≤ x) (h : 0 < y) (h1 : Int.gcd x y = Int.gcd x0 y0) : 0 ≤ y ∧ 0 ≤ x.fmod y ∧ Int.gcd y (x.fmod y) = Int.gcd x0 y0 :=
  ⟨by omega, Int.fmod_nonneg h0 (by omega), by rw [gcd_step x y h]; exact h1⟩
theorem div_meas {x y : Int} (h : 0 < y) : (x.fmod y).toNat < y.toNat := by
  have := Int.fmod_lt_of_pos x h
  omega
theorem gcd_end {x y x0 y0 : Int} (h0 : 0 ≤ x) (h1 : 0 ≤ y) (h : ¬ 0 < y) (h2 : Int.gcd x y = Int.gcd x0 y0) : (Int.gcd x0 y0 : Int) = x := by
  have : y = 0 := by omega
  subst this
  rw [← h2, Int.gcd_zero_right]; omega
theorem divided_call {w : World} {mean : ExcName → Option Value} {mg mb : Str → Option Value} {dp un : Nat} {gd : Option (List Code)} {cn : Str} {cs : Scope} {a : Addr} {ccd : Value} {cl : List (Str × Addr)} {outer : List Env} {A₀ : Around} {base h₀ : Heap} {L : Addr} {m : Str → Option Value} {news : List (Addr × Obj)} {s : Shared} {Q E : Value → Shared → Prop} {x y : Int} {t u : Tok} :
   Below A₀ base outer h₀ → Fr h₀ L s.heap m → (hd.heap_39 w.params).In h₀ → News h₀ L s.heap news → Top hd.view_39 (looseW hd.view_39 [Str.ofString "Double"]) mean mg mb h₀ → cs.kind = .function → dp + 1 < recursionLimit → un + 8 < cLine → 0 ≤ x → 0 ≤ y →
   (∀ t h' tk', Fr h₀ L h' m → News h₀ L h' news → Q (.int (Int.gcd x y) t) { s with heap := h', toks := tk' }) →
   wpAny (model PySem.Challenge.rw_aq6037_01.row.prog w) (ktrTop dp un gd cn cs L a ccd cl outer) (call (.ref 41) [.int x t, .int y u]) Q E s := by
  k_with_none
  w_top off
  k_fill
  intro B F X N T hk hd hu hx hy hret
  k_with "exec While Compare cons nil" => k_while_given ["one!", "two!"] (fun x0 y0 _ x1 y1 => 0 ≤ x1 ∧ 0 ≤ y1 ∧ Int.gcd x1 y1 = Int.gcd x0 y0) (fun x0 y0 _ x1 y1 => y1.toNat) "one" "two"
  k_with "state" => exact div_turn (by assumption) (by assumption) (by assumption)
  k_with "measure" => exact div_meas (by assumption)
  refine wpAny_call ?_
  k_dflt cell_enter
  k_steps
  all_goals (refine' cb_retI (Q := Q) hret ?e1 ?e2 ?e3; (case e2 => k_asm); (case e3 => k_asm); (case e1 => (simp only [Int.not_lt, gt_iff_lt] at *); exact (gcd_end (by assumption) (by assumption) (by omega) (by assumption)).symm))
end Aq
end

/-! ## Double -/
section
open PySem PySem.W PyProof.Rows PySem.Calls PySem.Spec PyProof.V
namespace Aq
theorem double_call {w : World} {mean : ExcName → Option Value} {mg mb : Str → Option Value} {dp un : Nat} {gd : Option (List Code)} {cn : Str} {cs : Scope} {a : Addr} {ccd : Value} {cl : List (Str × Addr)} {outer : List Env} {A₀ : Around} {base h₀ : Heap} {L : Addr} {m : Str → Option Value} {news : List (Addr × Obj)} {s : Shared} {Q E : Value → Shared → Prop} {x y : Int} {t u : Tok} :
   Below A₀ base outer h₀ → Fr h₀ L s.heap m → (hd.heap_39 w.params).In h₀ → News h₀ L s.heap news → Top hd.view_39 (looseW hd.view_39 [Str.ofString "Double"]) mean mg mb h₀ → cs.kind = .function → dp + 1 < recursionLimit → un + 8 < cLine → 0 < y → x.natAbs < 2 ^ 200 →
   (∀ t h' tk', Fr h₀ L h' m → News h₀ L h' news → Q (.float (Float64.ofFrac (decide (x < 0)) x.natAbs y.natAbs) t) { s with heap := h', toks := tk' }) →
   wpAny (model PySem.Challenge.rw_aq6037_01.row.prog w) (ktrTop dp un gd cn cs L a ccd cl outer) (call (.ref 22) [.int x t, .int y u]) Q E s := by
  k_with_none
  w_top off
  k_fill
  intro B F X N T hk hd hu hy hx hret
  k_with "binaryOp Div int int" => (refine' r_div (by assumption) (by assumption) ?_ rfl; intro hinf)
  refine wpAny_call ?_
  k_dflt (refine' code_def ?k1 ?k2 ?k3 ?k4 ?k5 ?kA ?kF ?kK ?k6 ?k7 ?k8 ?k9 ?kB ?_ ?c2 ?c3 ?c4 ?c5; (case kA => exact rfl); (case kF => exact rfl); (case kK => assumption); (case k1 => k_asm); (case k2 => k_asm); (case k3 => k_asm); (case k4 => k_asm); (case k5 => k_asm); (case k6 => k_is); (case k7 => k_is); (case k8 => ktr_room); (case k9 => exact binds_K (by k_in) rfl (by k_is) rfl rfl rfl); (case c5 => decide); (case kB => exact locs rfl); (case c2 => exact rfl); (case c3 => exact rfl); (case c4 => exact rfl); k_whole; intro g' L' h' FG' F' N' B' X' T'; (try dsimp only); (try k_lift B'); (try k_fold))
  k_steps
  all_goals first | exact hret _ _ _ (by k_asm) (by k_asm) | (exfalso; omega)
theorem double1_call {w : World} {mean : ExcName → Option Value} {mg mb : Str → Option Value} {dp un : Nat} {gd : Option (List Code)} {cn : Str} {cs : Scope} {a : Addr} {ccd : Value} {cl : List (Str × Addr)} {outer : List Env} {A₀ : Around} {base h₀ : Heap} {L : Addr} {m : Str → Option Value} {news : List (Addr × Obj)} {s : Shared} {Q E : Value → Shared → Prop} {x : Int} {t : Tok} :
   Below A₀ base outer h₀ → Fr h₀ L s.heap m → (hd.heap_39 w.params).In h₀ → News h₀ L s.heap news → Top hd.view_39 (looseW hd.view_39 [Str.ofString "Double"]) mean mg mb h₀ → cs.kind = .function → dp + 1 < recursionLimit → un + 8 < cLine → x.natAbs < 2 ^ 200 →
   (∀ t h' tk', Fr h₀ L h' m → News h₀ L h' news → Q (.float (Float64.ofFrac (decide (x < 0)) x.natAbs (1 : Int).natAbs) t) { s with heap := h', toks := tk' }) →
   wpAny (model PySem.Challenge.rw_aq6037_01.row.prog w) (ktrTop dp un gd cn cs L a ccd cl outer) (call (.ref 22) [.int x t]) Q E s := by
  k_with_none
  w_top off
  k_fill
  intro B F X N T hk hd hu hx hret
  k_with "binaryOp Div int int" => (refine' r_div (by decide) (by assumption) ?_ rfl; intro hinf)
  refine wpAny_call ?_
  k_dflt (refine' code_def ?k1 ?k2 ?k3 ?k4 ?k5 ?kA ?kF ?kK ?k6 ?k7 ?k8 ?k9 ?kB ?_ ?c2 ?c3 ?c4 ?c5; (case kA => exact rfl); (case kF => exact rfl); (case kK => assumption); (case k1 => k_asm); (case k2 => k_asm); (case k3 => k_asm); (case k4 => k_asm); (case k5 => k_asm); (case k6 => k_is); (case k7 => k_is); (case k8 => ktr_room); (case k9 => exact binds_K (by k_in) rfl (by k_is) rfl rfl rfl); (case c5 => decide); (case kB => exact locs rfl); (case c2 => exact rfl); (case c3 => exact rfl); (case c4 => exact rfl); k_whole; intro g' L' h' FG' F' N' B' X' T'; (try dsimp only); (try k_lift B'); (try k_fold))
  k_steps
  all_goals first | exact hret _ _ _ (by k_asm) (by k_asm) | (exfalso; omega)
end Aq
end

/-! ## _law_numbers -/
section
open PySem PySem.W PyProof.Rows PySem.Calls PySem.Spec PyProof.V
namespace Aq
theorem row_start (ns : List Int) : (∀ v ∈ List.map (fun k' : Int => if k' < 0 then -k' else k') (List.take 4 ns), 0 ≤ v) ∧ (List.map (fun k' : Int => if k' < 0 then -k' else k') (List.take 4 ns)).length ≤ 4 := by
  refine ⟨fun v hv => ?_, by simp; omega⟩
  obtain ⟨k, _, rfl⟩ := List.mem_map.mp hv
  split <;> omega
theorem sum_nonneg : ∀ {row : List Int}, (∀ v ∈ row, 0 ≤ v) → 0 ≤ row.sum
  | [], _ => by simp
  | v :: r, h => by
    have h1 := h v (.head _)
    have h2 := sum_nonneg (row := r) fun x hx => h x (.tail _ hx)
    rw [List.sum_cons]; omega
theorem getD_nonneg {row : List Int} (h : ∀ v ∈ row, 0 ≤ v) (k : Nat) : 0 ≤ row.getD k 0 := by
  rw [List.getD_eq_getElem?_getD]
  cases e : row[k]? with
  | none => simp
  | some v => exact h v (List.mem_of_getElem? e)
theorem row_turn {row : List Int} (h : ∀ v ∈ row, 0 ≤ v) (hl : (row.length : Int) < 4) : (∀ v ∈ row ++ [5 * (row.length : Int) + 3 + row.sum], 0 ≤ v) ∧ (row ++ [5 * (row.length : Int) + 3 + row.sum]).length ≤ 4 := by
  have hs := sum_nonneg h
  refine ⟨fun v hv => ?_, by simp; omega⟩
  rcases List.mem_append.mp hv with hv | hv
  · exact h v hv
  · rw [List.mem_singleton.mp hv]; omega
theorem numbers_call {w : World} {mean : ExcName → Option Value} {mg mb : Str → Option Value} {dp un : Nat} {gd : Option (List Code)} {cn : Str} {cs : Scope} {a : Addr} {ccd : Value} {cl : List (Str × Addr)} {outer : List Env} {A₀ : Around} {base h₀ : Heap} {L : Addr} {m : Str → Option Value} {s : Shared} {Q E : Value → Shared → Prop} {l : Addr} {vs : List Value} {ns : List Int} :
   Below A₀ base outer h₀ → Fr h₀ L s.heap m → (hd.heap_39 w.params).In h₀ → News h₀ L s.heap [] → Top hd.view_39 (looseW hd.view_39 [Str.ofString "Double"]) mean mg mb h₀ → cs.kind = .function → dp + 1 < recursionLimit → un + 8 < cLine → base.IsList l vs.toArray → IntsAre vs ns → ns.length < 64 →
   (∀ (D : Addr) (t1 t2 t3 t4 : Tok) (c : Nat) (h' : Heap) (tk' : Nat) (n1 n2 n3 n4 : Int), 0 ≤ n1 → n1 < 40 → 0 ≤ n2 → n2 < 260 → 0 ≤ n3 → n3 < 7 → 0 ≤ n4 → Fr h₀ L h' m → News h₀ L h' ((D, ({ cls := .type "tuple", data := .seq #[.int n1 t1, .int n2 t2, .int n3 t3, .int n4 t4] c } : Obj)) :: []) → Q (.ref D) { s with heap := h', toks := tk' }) →
   wpAny (model PySem.Challenge.rw_aq6037_01.row.prog w) (ktrTop dp un gd cn cs L a ccd cl outer) (call (.ref 34) [.ref l]) Q E s := by
  k_with_none
  w_top off
  k_fill
  intro B F X N T hk hd hu hl hi hlen hret
  k_with "state" => exact row_start _
  k_with "state" => exact row_turn (by assumption) (by assumption)
  k_with "exec While Compare cons nil" => k_while (fun _ row => (∀ v ∈ row, 0 ≤ v) ∧ row.length ≤ 4) (fun _ row => 4 - row.length) "row"
  refine wpAny_call ?_
  k_dflt cell_enter
  k_steps
  refine' hret _ _ _ _ _ _ _ _ _ _ _ _ ?r1 ?r2 ?r3 ?r4 ?r5 ?r6 ?r7 ?rF (news_drop ?rN (fun p hp => by cases hp))
  case rF => k_asm
  case rN => k_asm
  case r1 => exact Int.fmod_nonneg_of_pos _ (by decide)
  case r2 => exact Int.fmod_lt_of_pos _ (by decide)
  case r3 => exact Int.fmod_nonneg_of_pos _ (by decide)
  case r4 => exact Int.fmod_lt_of_pos _ (by decide)
  case r5 => exact Int.fmod_nonneg_of_pos _ (by decide)
  case r6 => exact Int.fmod_lt_of_pos _ (by decide)
  case r7 => exact getD_nonneg (by assumption) _
end Aq
end

/-! ## nearest_fraction -/
section
open PySem PySem.W PyProof.Rows PySem.Calls PySem.Spec PyProof.V
namespace Aq
/-- the first loop's word: a double of M / 2^60, d a power of two -/
def FW (V : Nat) (x : UInt64) (d : Int) : Prop := ∃ j : Nat, j ≤ 60 ∧ d = 2 ^ j ∧ FlV false x (V * 2 ^ j)
theorem fw_start {V : Nat} {x : UInt64} (h : FlV false x V) : FW V x 1 := ⟨0, by omega, rfl, by simpa using h⟩
theorem fw_flv {V : Nat} {x : UInt64} {d : Int} (h : FW V x d) : FlV false x (V * d.toNat) ∧ 1 ≤ d ∧ d ≤ 2 ^ 60 := by
  obtain ⟨j, h1, h2, h3⟩ := h
  have h4 : d = (((2 : Nat) ^ j : Nat) : Int) := by rw [h2]; simp
  have h5 : d.toNat = (2 : Nat) ^ j := by rw [h4]; exact Int.toNat_natCast _
  have h6 : (2 : Nat) ^ j ≤ 2 ^ 60 := Nat.pow_le_pow_right (by decide) h1
  have h7 : 0 < (2 : Nat) ^ j := Nat.two_pow_pos j
  rw [h5]
  exact ⟨h3, by omega, by omega⟩
theorem fw_turn {V : Nat} {x y : UInt64} {d : Int} (h : FW V x d) (ht : (V * d.toNat) % 2 ^ 60 ≠ 0) (hy : FlV false y (2 * (V * d.toNat))) : FW V y (d * 2) ∧ (2 ^ 61 - d * 2).toNat < (2 ^ 61 - d).toNat := by
  obtain ⟨j, h1, h2, h3⟩ := h
  have h4 : d = (((2 : Nat) ^ j : Nat) : Int) := by rw [h2]; simp
  have h5 : d.toNat = (2 : Nat) ^ j := by rw [h4]; exact Int.toNat_natCast _
  have h7 : 0 < (2 : Nat) ^ j := Nat.two_pow_pos j
  rw [h5] at ht hy
  have hj : j < 60 := by
    rcases Nat.lt_or_ge j 60 with h | h
    · exact h
    · have : j = 60 := by omega
      subst this
      exact absurd (Nat.mul_mod_left _ _) ht
  have h6 : (2 : Nat) ^ (j + 1) ≤ 2 ^ 60 := Nat.pow_le_pow_right (by decide) hj
  have h8 : (2 : Nat) ^ (j + 1) = 2 ^ j * 2 := Nat.pow_succ 2 j
  refine ⟨⟨j + 1, hj, ?_, ?_⟩, ?_⟩
  · rw [h2, Int.pow_succ]
  · have : V * 2 ^ (j + 1) = 2 * (V * 2 ^ j) := by rw [h8]; ac_rfl
    rw [this]; exact hy
  · omega
theorem fw_lt {V : Nat} {x : UInt64} {d : Int} (h : FW V x d) (hV : V < 2 ^ 100) : V * d.toNat < 2 ^ 200 := by
  have h1 := (fw_flv h).2.2
  have h2 : d.toNat ≤ 2 ^ 60 := by omega
  have h3 : V * d.toNat ≤ V * 2 ^ 60 := Nat.mul_le_mul_left _ h2
  omega

theorem r_int' {prog : Program} {w : World} {A : Around} {E : Value → Shared → Prop} {s : Shared} {x : UInt64} {M : Nat} {t : Tok} {Q : Value → Shared → Prop} (h : FlV false x M) (k : ∀ i : Int, i = ((M / 2 ^ 60 : Nat) : Int) → Q (.int i s.toks) { s with toks := s.toks + 1 }) : wpAny (model prog w) A (call (.type "int") [.float x t]) Q E s := r_int h (k _ rfl)
theorem r_fdiv {prog : Program} {w : World} {A : Around} {E : Value → Shared → Prop} {s : Shared} {a b : Int} {t u : Tok} {Q : Value → Shared → Prop} (hb : 0 < b) (hb2 : b < 2 ^ 64) (h : Q (.int (a.fdiv b) s.toks) { s with toks := s.toks + 1 }) : wpAny (model prog w) A (binaryOp .FloorDiv (.int a t) (.int b u)) Q E s := by
  refine floordiv_int (by omega) h (Or.inl (PyProof.noPylong_of_log2 ?_))
  have : b.natAbs.log2 < 64 := (Nat.log2_lt (by omega)).mpr (by omega)
  omega
theorem r_min {prog : Program} {w : World} {A : Around} {E : Value → Shared → Prop} {s : Shared} {h₀ : Heap} {L : Addr} {m : Str → Option Value} {news : List (Addr × Obj)} {a b : Int} {t u : Tok} {Q : Value → Shared → Prop} (hh : A.handled = none) (F : Fr h₀ L s.heap m) (N : News h₀ L s.heap news)
    (h : ∀ (k : Int) (tt : Tok) h' tk, k ≤ a → k ≤ b → (k = a ∨ k = b) → Fr h₀ L h' m → News h₀ L h' news → Q (.int k tt) { s with heap := h', toks := tk }) :
    wpAny (model prog w) A (call (.builtin "min") [.int a t, .int b u]) Q E s :=
  min_two_N hh F N fun h' tk F' N' => h _ _ h' tk (by split <;> omega) (by split <;> omega) (by split <;> omega) F' N'

theorem scale_eq {V : Nat} {n d : Int} (hd : 1 ≤ d) (hn : n = ((V * d.toNat / 2 ^ 60 : Nat) : Int)) (hz : ¬ V * d.toNat % 2 ^ 60 ≠ 0) : n * 2 ^ 60 = (V : Int) * d := by
  have h1 : ((V * d.toNat : Nat) : Int) = (V : Int) * d := by rw [Int.natCast_mul, Int.toNat_of_nonneg (by omega)]
  rw [← h1]
  omega
theorem nf_low {V : Nat} {n d most a b c e : Int} (hi : Inv n d most a b c e) (hd : 1 ≤ d) (hn : n = ((V * d.toNat / 2 ^ 60 : Nat) : Int)) (hz : ¬ V * d.toNat % 2 ^ 60 ≠ 0)
    (hx : most < b + e ∨ a * d = n * b) (hl : ¬ ((n * b - a * d) * e > (c * d - n * e) * b)) (ht : ¬ ((n * b - a * d) * e = (c * d - n * e) * b ∧ b > e)) : Best V (2 ^ 60) most a b :=
  best_scale (scale_eq hd hn hz) (by decide) (by omega) (end_low hi (by omega) hx hl ht)
theorem nf_high {V : Nat} {n d most a b c e : Int} (hi : Inv n d most a b c e) (hd : 1 ≤ d) (hn : n = ((V * d.toNat / 2 ^ 60 : Nat) : Int)) (hz : ¬ V * d.toNat % 2 ^ 60 ≠ 0)
    (hx : most < b + e ∨ a * d = n * b) (hl : (n * b - a * d) * e > (c * d - n * e) * b ∨ ((n * b - a * d) * e = (c * d - n * e) * b ∧ b > e)) : Best V (2 ^ 60) most c e :=
  best_scale (scale_eq hd hn hz) (by decide) (by omega) (end_high hi (by omega) hx hl)
theorem sgn_one {V : Nat} {most a b : Int} {sg : Bool} (hm : 1 ≤ most) (h : Best V (2 ^ 60) most a b) (hs : sg = false ∨ V = 0) : a = if sg = true then -a else a := by
  rcases hs with hs | hs
  · rw [hs]; rfl
  · subst hs
    have := best_zero (by decide) hm h
    subst this
    simp
theorem sgn_two {V : Nat} {a : Int} {sg : Bool} (hs : ¬ (sg = false ∨ V = 0)) : -a = if sg = true then -a else a := by
  cases sg with
  | false => exact absurd (.inl rfl) hs
  | true => rfl
local macro_rules | `(tactic| walk_at "call builtin:min") => `(tactic| k_dflt (k_extra "MIN"))
theorem nf_call {w : World} {mean : ExcName → Option Value} {mg mb : Str → Option Value} {dp un : Nat} {gd : Option (List Code)} {cn : Str} {cs : Scope} {a : Addr} {ccd : Value} {cl : List (Str × Addr)} {outer : List Env} {A₀ : Around} {base h₀ : Heap} {L : Addr} {m : Str → Option Value} {news : List (Addr × Obj)} {s : Shared} {Q E : Value → Shared → Prop} {x : UInt64} {most : Int} {t u : Tok} {V : Nat} {sg : Bool} :
   Below A₀ base outer h₀ → Fr h₀ L s.heap m → (hd.heap_39 w.params).In h₀ → News h₀ L s.heap news → Top hd.view_39 (looseW hd.view_39 [Str.ofString "Double"]) mean mg mb h₀ → cs.kind = .function → dp + 1 < recursionLimit → un + 8 < cLine → FlV sg x V → V < 2 ^ 100 → 1 ≤ most → most ≤ 1000 →
   (∀ (D : Addr) (t1 t2 : Tok) (c : Nat) (h' : Heap) (tk' : Nat) (A b : Int), (∃ a, Best V (2 ^ 60) most a b ∧ A = if sg = true then -a else a) → Fr h₀ L h' m → News h₀ L h' ((D, ({ cls := .type "tuple", data := .seq #[.int A t1, .int b t2] c } : Obj)) :: news) → AllLt D news → Q (.ref D) { s with heap := h', toks := tk' }) →
   wpAny (model PySem.Challenge.rw_aq6037_01.row.prog w) (ktrTop dp un gd cn cs L a ccd cl outer) (call (.ref 29) [.float x t, .int most u]) Q E s := by
  k_with_none
  w_top off
  k_fill
  intro B F X N T hk hd hu hx hV hm1 hm2 hret
  k_with "call builtin:abs" => (refine' r_abs (by assumption) ?_; intro y hy; (try dsimp only))
  k_with "call type:int" => (refine' r_int' (by assumption) ?_; intro n hn; (try dsimp only))
  k_with "compareOp NotEq float int" => (refine' r_ne (by assumption) (by assumption) ?_)
  k_with "binaryOp Mult float int" => (refine' r_mul2 (by assumption) (fw_lt (by assumption) (by assumption)) ?_; intro y hy; (try dsimp only))
  k_with "exec While Compare cons nil" => ((rename Fr _ _ _ _ => lF'); (rename News _ _ _ _ => lN'); (with_unfolding_all refine' ksw_while (σ := UInt64 × Nat × Int × Nat) (fun _ => news) (fun c => [(Str.ofString "n", Value.float c.1 c.2.1), (Str.ofString "d", Value.int c.2.2.1 c.2.2.2)]) (fun _ => True) [] (fun c => FW V c.1 c.2.2.1) (fun c => (2 ^ 61 - c.2.2.1).toNat) ⟨_, _, 1, _⟩ lF' (fun p hp => lN' p (List.mem_cons_of_mem _ hp)) ?kf ?kk ?kp ?_); (case kf => trivial); (case kk => kst_all); (case kp => exact fw_start (by assumption)); (clear lF' lN'); (rintro ⟨nx, nt, dx, dt⟩ kU kH kTk _ kInv kFr kNews); (dsimp only at kInv); (have kFl := (fw_flv kInv).1); (have kD1 := (fw_flv kInv).2.1); (have kD2 := (fw_flv kInv).2.2); (dsimp only [kstB] at kFr); (try k_fold))
  k_with "binaryOp FloorDiv int int" => (refine' r_fdiv ?fd1 ?fd2 ?_; (case fd1 => omega); (case fd2 => omega))
  k_with "MIN" => ((rename Fr _ _ _ _ => lF'); (rename News _ _ _ _ => lN'); (refine' r_min rfl lF' lN' ?_); (clear lF' lN'); (intro k kt kh ktk k1 k2 k3 kF kN); (first | (obtain ⟨⟨kIa, kA1, kA2, kA3, kA4, kA5, kA6, kA7, kA8⟩, kA9, kA10, kA11, kA12, kA13⟩ := step_a (by assumption) (by assumption) k1 k2 k3) | (obtain ⟨⟨kIc, kC1, kC2, kC3, kC4, kC5, kC6, kC7, kC8⟩, kC9, kC10, kC11, kC12⟩ := step_c (by assumption) (by assumption) k1 k2 k3)); (clear k1 k2 k3); (try dsimp only))
  k_with "exec While BoolOp cons nil" => k_while_given ["n", "d", "most"] (fun n d most _ a b c e => Inv n d most a b c e ∧ 1 ≤ b ∧ b ≤ most ∧ 1 ≤ e ∧ e ≤ most ∧ 0 ≤ n * b - a * d ∧ n * b - a * d ≤ d ∧ 0 < c * d - n * e ∧ c * d - n * e ≤ d) (fun n d most _ a b c e => (2 * most - b - e).toNat) "a" "b" "c" "e"
  k_with "compareOp GtE float int" => (refine' r_ge0 (by assumption) ?_)
  k_with "state" => exact (fw_turn (by assumption) (by assumption) (by assumption)).1
  k_with "state" => exact facts_of (inv_start (by omega) (by omega) (by assumption))
  k_with "state" => exact facts_of (by assumption)
  k_with "measure" => exact (fw_turn (by assumption) (by assumption) (by assumption)).2
  k_with "measure" => exact meas_then (by assumption) (by assumption) (by assumption) (by assumption) (by assumption) (by assumption) (by assumption) (by assumption) (by assumption)
  k_with "measure" => exact meas_else (by assumption) (by assumption) (by assumption) (by assumption) (by omega) (by assumption) (by assumption)
  refine wpAny_call ?_
  k_dflt cell_enter
  k_steps
  all_goals (refine' hret _ _ _ _ _ _ _ _ ?_ ?e2 (news_drop ?e3 ?e5) ?e4; (case e2 => k_asm); (case e3 => k_asm); (case e5 => (intro p hp; repeat (first | exact hp | apply List.Mem.tail))); (case e4 => first | assumption | exact (by assumption : _ ∧ AllLt _ _).2 | exact (by assumption : _ ∧ _ ∧ AllLt _ _).2.2 | exact (by assumption : _ ∧ _ ∧ _ ∧ AllLt _ _).2.2.2 | exact (by assumption : _ ∧ _ ∧ _ ∧ _ ∧ AllLt _ _).2.2.2.2))
  all_goals first
    | exact ⟨_, nf_high (by assumption) (by assumption) (by assumption) (by assumption) (by omega) (by omega), sgn_two (by assumption)⟩
    | exact ⟨_, nf_low (by assumption) (by assumption) (by assumption) (by assumption) (by omega) (by omega) (by omega), sgn_two (by assumption)⟩
    | (have hb := nf_high (V := V) (most := most) (by assumption) (by assumption) (by assumption) (by assumption) (by omega) (by omega); exact ⟨_, hb, sgn_one (by assumption) hb (by assumption)⟩)
    | (have hb := nf_low (V := V) (most := most) (by assumption) (by assumption) (by assumption) (by assumption) (by omega) (by omega) (by omega); exact ⟨_, hb, sgn_one (by assumption) hb (by assumption)⟩)
end Aq
end

/-! ## _law_best -/
section
open PySem PySem.W PyProof.Rows PySem.Calls PySem.Spec PyProof.V
namespace Aq
def BJ (P Q : Int) (news : List (Addr × Obj)) (m₀ : Str → Option Value) (i : Nat) (m : Str → Option Value) (nx : List (Addr × Obj)) : Prop :=
  (∀ z, z ≠ Str.ofString "best" → [Str.ofString "low", Str.ofString "above", Str.ofString "gap", Str.ofString "below"].contains z = false → m z = m₀ z) ∧
  ((i = 0 ∧ m (Str.ofString "best") = some .none ∧ nx = news) ∨
   ∃ (D : Addr) (a b g : Int) (ta tb tg : Tok) (c : Nat), m (Str.ofString "best") = some (.ref D) ∧ nx = (D, ({ cls := .type "tuple", data := .seq #[.int a ta, .int b tb, .int g tg] c } : Obj)) :: news ∧ AllLt D news ∧ Best P Q i a b ∧ g = gap P Q a b)
section
variable {prog : Program} {w : World} {A : Around} {E : Value → Shared → Prop} {s : Shared} {env : Env} {h₀ : Heap} {body : List Stmt} {Q : Flow → Shared → Prop}
theorem best_loop {L : Addr} {r : Addr} {b₀ : Int} {t₀ u₀ v₀ : Tok} {n : Nat} {m₀ : Str → Option Value} {news : List (Addr × Obj)} (P q : Int) (hL : env.locals = L)
    (hh : A.handled = none) (hr : IsRange s.heap r 1 b₀ 1 t₀ u₀ v₀) (hsmall : Builtin.Range.small 1 b₀ 1 = true) (hsz : Builtin.Range.rangeSize 1 b₀ 1 = (n : Int)) (F : Fr h₀ L s.heap m₀) (N : News h₀ L s.heap news) (hb : m₀ (Str.ofString "best") = some .none) (hn : 0 < n)
    (turn0 : ∀ (i : Int) t (u : Str → Option Value) h tk own, i = 0 → OwnOff own (news.map (·.1)) → Fr h₀ L h (fun y => if y = Str.ofString "below" then some (.int (1 + i) t) else if y = Str.ofString "best" then some .none else if [Str.ofString "low", Str.ofString "above", Str.ofString "gap", Str.ofString "below"].contains y then u y else m₀ y) → News h₀ L h (news ++ own) →
      wpAny (model prog w) A (execs body env) (InvPostG h₀ L (BJ P q news m₀ (0 + 1)) own { s with heap := h, toks := tk } Q) E { s with heap := h, toks := tk })
    (turn1 : ∀ (j : Nat) (i : Int) (D : Addr) (a b g : Int) (ta tb tg : Tok) (c : Nat) t (u : Str → Option Value) h tk own, i = (j : Int) → j < n → OwnOff own (news.map (·.1)) → (∀ p ∈ own, p.1 ≠ D) → AllLt D news → Best P q i a b → g = gap P q a b → Fr h₀ L h (fun y => if y = Str.ofString "below" then some (.int (1 + i) t) else if y = Str.ofString "best" then some (.ref D) else if [Str.ofString "low", Str.ofString "above", Str.ofString "gap", Str.ofString "below"].contains y then u y else m₀ y) →
      News h₀ L h ((D, ({ cls := .type "tuple", data := .seq #[.int a ta, .int b tb, .int g tg] c } : Obj)) :: (news ++ own)) →
      wpAny (model prog w) A (execs body env) (InvPostG h₀ L (BJ P q news m₀ (j + 1)) own { s with heap := h, toks := tk } Q) E { s with heap := h, toks := tk })
    (done : ∀ (D : Addr) (a b g : Int) (ta tb tg : Tok) (c : Nat) (u : Str → Option Value) h tk, AllLt D news → Best P q n a b → Fr h₀ L h (fun y => if y = Str.ofString "below" then u y else if y = Str.ofString "best" then some (.ref D) else if [Str.ofString "low", Str.ofString "above", Str.ofString "gap", Str.ofString "below"].contains y then u y else m₀ y) →
      News h₀ L h ((D, ({ cls := .type "tuple", data := .seq #[.int a ta, .int b tb, .int g tg] c } : Obj)) :: news) → Q .next { s with heap := h, toks := tk }) :
    wpAny (model prog w) A (pyIter (.ref r)) (fun it s₂ => LoopAtV prog w A h₀ env (Str.ofString "below") body Q E it s₂) E s := by
  subst hL
  let st : List Str := [Str.ofString "low", Str.ofString "above", Str.ofString "gap", Str.ofString "below"]
  let Ph : List Int → Value × List (Addr × Obj) → Prop := fun pre c => (pre = [] ∧ c = (Value.none, [])) ∨
    ∃ (D : Addr) (a b g : Int) (ta tb tg : Tok) (k : Nat), c = (Value.ref D, [(D, ({ cls := .type "tuple", data := .seq #[.int a ta, .int b tb, .int g tg] k } : Obj))]) ∧ AllLt D news ∧ Best P q (pre.length : Int) a b ∧ g = gap P q a b
  have hE : ∀ {pre : List Int} {k : Int} {own : List (Addr × Obj)} {s₁ s₂ : Shared}, InvEndG h₀ env.locals (BJ P q news m₀ (pre.length + 1)) own s₁ s₂ →
      InvEndG h₀ env.locals (KdS (fun _ => []) news (fun c : Value × List (Addr × Obj) => [(Str.ofString "best", c.1)]) (fun l c => ∀ p ∈ c.2, p ∈ l) (Str.ofString "below") st m₀ Ph (news.map (·.1)) (pre ++ [k])) own s₁ s₂ := by
    rintro pre k own s₁ s₂ ⟨h', tk', m', news', nx, e, F', N', hn', ho', hoff, h1, h2⟩
    rcases h2 with ⟨h2, _⟩ | ⟨D, a, b, g, ta, tb, tg, c, h2, rfl, h3, h4, h5⟩
    · omega
    · refine ⟨h', tk', m', news', news ++ [(D, _)], e, F', N', fun p hp => hn' p ?_, ho', fun p hp x hx => hoff p hp x ?_, (.ref D, [(D, _)]), [(D, _)], rfl, ?_, fun p hp => List.mem_append.mpr (.inr hp), ?_, fun z _ hz hc => h1 z (hz _ (.head _)) hc, .inr ⟨D, a, b, g, ta, tb, tg, c, rfl, h3, ?_, h5⟩⟩
      · rcases List.mem_append.mp hp with hp | hp
        · exact .tail _ hp
        · rw [List.mem_singleton.mp hp]; exact .head _
      · rw [List.map_append] at hx
        rcases List.mem_append.mp hx with hx | hx
        · exact .tail _ hx
        · rw [List.mem_singleton.mp hx]; exact .head _
      · intro p hp x hx e
        rw [List.mem_singleton.mp hp] at e
        obtain ⟨r, hr, rfl⟩ := List.mem_map.mp hx
        exact absurd (ktn_ltOf h3 r hr) (by rw [← e]; exact Nat.lt_irrefl _)
      · intro p hp
        rw [List.mem_singleton.mp hp]
        exact h2
      · rw [List.length_append]; exact h4
  refine kd_range (σ := Value × List (Addr × Obj)) (fun _ => []) news (fun c => [(Str.ofString "best", c.1)]) (fun l c => ∀ p ∈ c.2, p ∈ l) st Ph (news.map (·.1)) (Value.none, []) hh hr hsmall hsz F N (fun p hp => by simpa using hp) (fun _ => rfl) (fun p hp => nomatch hp) ?_ (.inl ⟨rfl, rfl⟩) ?_ ?_
  · intro p hp
    rw [List.mem_singleton.mp hp]
    exact hb
  · rintro c tl pre k t u h tk own hk hlt sep _ hF hP F₁ N₁
    replace N₁ : News h₀ env.locals h (news ++ (tl ++ own)) := N₁
    have N₂ : ∀ p ∈ news ++ own, h.get? p.1 = some p.2 ∧ p.1 ≠ env.locals ∧ h₀.get? p.1 = none := fun p hp => N₁ p ((List.mem_append.mp hp).elim (fun h => List.mem_append.mpr (.inl h)) fun h => List.mem_append.mpr (.inr (List.mem_append.mpr (.inr h))))
    rcases hP with ⟨rfl, rfl⟩ | ⟨D, a, b, g, ta, tb, tg, c, rfl, h3, h4, h5⟩
    · subst hk
      refine wpAny_mono (turn0 0 t u h tk own rfl sep.one F₁ N₂) (fun f s₂ p => ?_) fun _ _ x => x
      cases f with
      | ret v => exact p
      | brk => exact p
      | next => exact hE (pre := []) p
      | cont => exact hE (pre := []) p
    · subst hk
      have hD := hF _ (.head _)
      refine wpAny_mono (turn1 pre.length (pre.length : Int) D a b g ta tb tg c t u h tk own rfl hlt sep.one (fun p hp e => ?_) h3 h4 h5 F₁ (fun p hp => ?_)) (fun f s₂ p => ?_) fun _ _ x => x
      · rcases List.mem_append.mp hD with hD | hD
        · exact sep.one p hp _ (List.mem_map.mpr ⟨_, hD, rfl⟩) e
        · exact sep.two p hp _ (List.mem_map.mpr ⟨_, hD, rfl⟩) e
      · rcases List.mem_cons.mp hp with rfl | hp
        · exact N₁ _ ((List.mem_append.mp hD).elim (fun h => List.mem_append.mpr (.inl h)) fun h => List.mem_append.mpr (.inr (List.mem_append.mpr (.inl h))))
        · exact N₂ p hp
      · cases f with
        | ret v => exact p
        | brk => exact p
        | next => exact hE p
        | cont => exact hE p
  · rintro c tl u h tk _ hF hP F₁ N₁
    replace N₁ : News h₀ env.locals h (news ++ tl) := N₁
    rcases hP with ⟨e, _⟩ | ⟨D, a, b, g, ta, tb, tg, c, rfl, h3, h4, h5⟩
    · have := congrArg List.length e
      rw [rangeKs_length, List.length_nil] at this
      omega
    · rw [rangeKs_length] at h4
      have hD := hF _ (.head _)
      refine done D a b g ta tb tg c u h tk h3 h4 F₁ fun p hp => ?_
      rcases List.mem_cons.mp hp with rfl | hp
      · exact N₁ _ hD
      · exact N₁ p (List.mem_append.mpr (.inl hp))
end
theorem bl_end {h₀ h' : Heap} {L : Addr} {P q : Int} {news own news' : List (Addr × Obj)} {m₀ m' : Str → Option Value} {i : Nat} {s₁ : Shared} {tk : Nat} {D : Addr} {a b g : Int} {ta tb tg : Tok} {c : Nat}
    (k : Int) (hk : k = (i : Int)) (hB : Best P q (k + 1) a b) (hg : g = gap P q a b) (F : Fr h₀ L h' m') (N : News h₀ L h' news') (hb : m' (Str.ofString "best") = some (.ref D)) (hm : ∀ z, z ≠ Str.ofString "best" → [Str.ofString "low", Str.ofString "above", Str.ofString "gap", Str.ofString "below"].contains z = false → m' z = m₀ z)
    (hD : (D, ({ cls := .type "tuple", data := .seq #[.int a ta, .int b tb, .int g tg] c } : Obj)) ∈ news') (hn : ∀ p ∈ news, p ∈ news') (ho : ∀ p ∈ own, p ∈ news') (hoff : OwnOff own (news.map (·.1))) (hoD : ∀ p ∈ own, p.1 ≠ D) (hlt : AllLt D news) :
    InvEndG h₀ L (BJ P q news m₀ (i + 1)) own s₁ { s₁ with heap := h', toks := tk } := by
  have hB' : Best P q (((i + 1 : Nat)) : Int) a b := by
    have e : (((i + 1 : Nat)) : Int) = k + 1 := by omega
    rw [e]
    exact hB
  refine InvEndG.intro F N (nx := (D, ({ cls := .type "tuple", data := .seq #[.int a ta, .int b tb, .int g tg] c } : Obj)) :: news) ⟨hm, .inr ⟨D, a, b, g, ta, tb, tg, c, hb, rfl, hlt, hB', hg⟩⟩ ?_ ?_ ho
  · intro p hp x hx
    rcases List.mem_cons.mp hx with rfl | hx
    · exact hoD p hp
    · exact hoff p hp x hx
  · intro p hp
    rcases List.mem_cons.mp hp with rfl | hp
    · exact hD
    · exact hn p hp
def P2End (h₀ : Heap) (L : Addr) (s₁ : Shared) (I : Addr) (it : Obj) (ax : Addr) (lo : Obj) (P q : Int) (news own : List (Addr × Obj)) (m₂ : Str → Option Value) (Φ : Int → Int → Prop) (s₂ : Shared) : Prop :=
  ∃ (h' : Heap) (tk : Nat) (m' : Str → Option Value) (news' : List (Addr × Obj)) (D : Addr) (a b g : Int) (ta tb tg : Tok) (c : Nat), s₂ = { s₁ with heap := h', toks := tk } ∧ Fr h₀ L h' m' ∧ News h₀ L h' news' ∧ (I, it) ∈ news' ∧ (D, ({ cls := .type "tuple", data := .seq #[.int a ta, .int b tb, .int g tg] c } : Obj)) ∈ news' ∧ (ax, lo) ∈ news' ∧ (∀ p ∈ news ++ own, p ∈ news') ∧ D ≠ I ∧
    m' (Str.ofString "best") = some (.ref D) ∧ (∀ z, z ≠ Str.ofString "best" → [Str.ofString "above", Str.ofString "gap"].contains z = false → m' z = m₂ z) ∧ AllLt D news ∧ (∀ p ∈ own, p.1 ≠ D) ∧ Φ a b ∧ g = gap P q a b
def P2Post (h₀ : Heap) (L : Addr) (s₁ : Shared) (I : Addr) (it : Obj) (ax : Addr) (lo : Obj) (P q : Int) (news own : List (Addr × Obj)) (m₂ : Str → Option Value) (Φ : Int → Int → Prop) (Q : Flow → Shared → Prop) (f : Flow) (s₂ : Shared) : Prop :=
  match f with
  | .ret v => Q (.ret v) s₂
  | .brk => Q .next s₂
  | _ => P2End h₀ L s₁ I it ax lo P q news own m₂ Φ s₂
theorem p2_end {h₀ h' : Heap} {L I ax D : Addr} {it lo : Obj} {P q : Int} {news own news' : List (Addr × Obj)} {m₂ m' : Str → Option Value} {Φ : Int → Int → Prop} {s₁ : Shared} {tk : Nat} {a b g : Int} {ta tb tg : Tok} {c : Nat}
    (hΦ : Φ a b) (hg : g = gap P q a b) (F : Fr h₀ L h' m') (N : News h₀ L h' news') (hb : m' (Str.ofString "best") = some (.ref D)) (hm : ∀ z, z ≠ Str.ofString "best" → [Str.ofString "above", Str.ofString "gap"].contains z = false → m' z = m₂ z)
    (hI : (I, it) ∈ news') (hD : (D, ({ cls := .type "tuple", data := .seq #[.int a ta, .int b tb, .int g tg] c } : Obj)) ∈ news') (hx : (ax, lo) ∈ news') (hn : ∀ p ∈ news ++ own, p ∈ news') (hDI : D ≠ I) (hlt : AllLt D news) (ho : ∀ p ∈ own, p.1 ≠ D) :
    P2End h₀ L s₁ I it ax lo P q news own m₂ Φ { s₁ with heap := h', toks := tk } := ⟨h', tk, m', news', D, a, b, g, ta, tb, tg, c, rfl, F, N, hI, hD, hx, hn, hDI, hb, hm, hlt, ho, hΦ, hg⟩
section
variable {prog : Program} {w : World} {A : Around} {E : Value → Shared → Prop} {s : Shared} {env : Env} {h₀ : Heap} {body : List Stmt} {Q : Flow → Shared → Prop} {pos : Pos}
theorem tup2 {L ax : Addr} {lo : Obj} {v1 v2 : Value} {n : Nat} {m₂ : Str → Option Value} {L0 news own : List (Addr × Obj)} (P q : Int) (Φ1 Φ2 : Int → Int → Prop) (hL : env.locals = L)
    (hh : A.handled = none) (F : Fr h₀ L s.heap m₂) (N : News h₀ L s.heap L0) (hm : (ax, lo) ∈ L0) (hsub : ∀ p ∈ news ++ own, p ∈ L0) (hc : lo.cls = .type "tuple") (hd : lo.data = .seq #[v1, v2] n)
    (turn1 : ∀ I it h tk, (∀ p ∈ L0, p.1 < I) → Fr h₀ L h m₂ → News h₀ L h ((I, it) :: L0) →
      wpAny (model prog w) A (assign (.Name (Str.ofString "above") pos) env v1) (fun _ s₂ => wpAny (model prog w) A (execs body env) (P2Post h₀ L { s with heap := h, toks := tk } I it ax lo P q news own m₂ Φ1 Q) E s₂) E { s with heap := h, toks := tk })
    (turn2 : ∀ I it (D : Addr) (a b g : Int) (ta tb tg : Tok) (c : Nat) (u : Str → Option Value) h tk, (∀ p ∈ L0, p.1 < I) → D ≠ I → AllLt D news → (∀ p ∈ own, p.1 ≠ D) → Φ1 a b → g = gap P q a b →
      Fr h₀ L h (fun y => if y = Str.ofString "best" then some (.ref D) else if [Str.ofString "above", Str.ofString "gap"].contains y then u y else m₂ y) → News h₀ L h ((I, it) :: (D, ({ cls := .type "tuple", data := .seq #[.int a ta, .int b tb, .int g tg] c } : Obj)) :: (ax, lo) :: (news ++ own)) →
      wpAny (model prog w) A (assign (.Name (Str.ofString "above") pos) env v2) (fun _ s₂ => wpAny (model prog w) A (execs body env) (P2Post h₀ L { s with heap := h, toks := tk } I it ax lo P q news own m₂ Φ2 Q) E s₂) E { s with heap := h, toks := tk })
    (done : ∀ (D : Addr) (a b g : Int) (ta tb tg : Tok) (c : Nat) (u : Str → Option Value) h tk, AllLt D news → (∀ p ∈ own, p.1 ≠ D) → Φ2 a b → g = gap P q a b →
      Fr h₀ L h (fun y => if y = Str.ofString "best" then some (.ref D) else if [Str.ofString "above", Str.ofString "gap"].contains y then u y else m₂ y) → News h₀ L h ((D, ({ cls := .type "tuple", data := .seq #[.int a ta, .int b tb, .int g tg] c } : Obj)) :: (ax, lo) :: (news ++ own)) → Q .next { s with heap := h, toks := tk }) :
    wpAny (model prog w) A (pyIter (.ref ax)) (fun it s₂ => TurnsAt prog w A h₀ env (.Name (Str.ofString "above") pos) body Q E it s₂) E s := by
  subst hL
  have hfr : ∀ {m₁ : Str → Option Value} {v : Value}, m₁ (Str.ofString "best") = some v → (∀ z, z ≠ Str.ofString "best" → [Str.ofString "above", Str.ofString "gap"].contains z = false → m₁ z = m₂ z) →
      m₁ = (fun y => if y = Str.ofString "best" then some v else if [Str.ofString "above", Str.ofString "gap"].contains y then m₁ y else m₂ y) := by
    intro m₁ v h2 h1
    funext y
    by_cases e2 : y = Str.ofString "best"
    · rw [if_pos e2, e2]; exact h2
    · rw [if_neg e2]
      cases e3 : [Str.ofString "above", Str.ofString "gap"].contains y with
      | true => simp
      | false => simp only [Bool.false_eq_true, if_false]; exact h1 y e2 e3
  have hlt0 : ∀ {I : Addr} {D : Addr} {o : Obj}, (∀ p ∈ L0, p.1 < I) → D ≠ I → ∀ p ∈ (D, o) :: (ax, lo) :: (news ++ own), p.1 ≠ I := by
    intro I D o hI hD p hp
    rcases List.mem_cons.mp hp with rfl | hp
    · exact hD
    · rcases List.mem_cons.mp hp with rfl | hp
      · exact Nat.ne_of_lt (hI _ hm)
      · exact Nat.ne_of_lt (hI _ (hsub p hp))
  refine iter_tupTurns (vs := [v1, v2]) hh F N hm hc hd fun I hI => ?_
  show ItemsRest _ _ _ _ _ _ _ _ _ _ _ _ [.val v1, .val v2] _ _
  refine ItemsRest.val fun h tk F1 it hic => ?_
  intro N1
  refine wpAny_mono (turn1 I it h tk hI F1 N1) (fun _ s₂ hs => wpAny_mono hs (fun f s₃ hp => ?_) fun _ _ x => x) fun _ _ x => x
  have up : ∀ s₃, P2End h₀ env.locals { s with heap := h, toks := tk } I it ax lo P q news own m₂ Φ1 s₃ → UnrEndW h₀ env.locals { s with heap := h, toks := tk } [(I, it)] (fun m' n' => SubL [(ax, lo)] n' ∧ ItemsRest prog w A E h₀ env (.Name (Str.ofString "above") pos) body Q s [(I, "tuple_iterator")] [(ax, lo)] [.val v2] m' n') s₃ := by
    rintro s₃ ⟨h', tk', m', news', D, a, b, g, ta, tb, tg, c, rfl, F', N', kI, kD, kx, kn, kDI, kb, km, klt, ko, kΦ, kg⟩
    refine ⟨h', tk', m', (D, ({ cls := .type "tuple", data := .seq #[.int a ta, .int b tb, .int g tg] c } : Obj)) :: (ax, lo) :: (news ++ own), rfl, F', ?_, ?_, ⟨.tail _ (.head _), trivial⟩, ?_⟩
    · intro p hp
      rcases List.mem_cons.mp hp with rfl | hp
      · exact N' _ kI
      · rcases List.mem_cons.mp hp with rfl | hp
        · exact N' _ kD
        · rcases List.mem_cons.mp hp with rfl | hp
          · exact N' _ kx
          · exact N' p (kn p hp)
    · intro p hp r hr
      rw [List.mem_singleton.mp hr]
      exact hlt0 hI kDI p hp
    · refine ItemsRest.val fun h2 tk2 F2 it2 hic2 => ?_
      intro N2
      rw [hfr kb km] at F2
      refine wpAny_mono (turn2 I it2 D a b g ta tb tg c m' h2 tk2 hI kDI klt ko kΦ kg F2 N2) (fun _ s₂ hs => wpAny_mono hs (fun f s₃ hp => ?_) fun _ _ x => x) fun _ _ x => x
      have up2 : ∀ s₃, P2End h₀ env.locals { s with heap := h2, toks := tk2 } I it2 ax lo P q news own m₂ Φ2 s₃ → UnrEndW h₀ env.locals { s with heap := h2, toks := tk2 } [(I, it2)] (fun m' n' => SubL [(ax, lo)] n' ∧ ItemsRest prog w A E h₀ env (.Name (Str.ofString "above") pos) body Q s [(I, "tuple_iterator")] [(ax, lo)] [] m' n') s₃ := by
        rintro s₃ ⟨h', tk', m', news', D, a, b, g, ta, tb, tg, c, rfl, F', N', kI, kD, kx, kn, kDI, kb, km, klt, ko, kΦ, kg⟩
        refine ⟨h', tk', m', (D, ({ cls := .type "tuple", data := .seq #[.int a ta, .int b tb, .int g tg] c } : Obj)) :: (ax, lo) :: (news ++ own), rfl, F', ?_, ?_, ⟨.tail _ (.head _), trivial⟩, ?_⟩
        · intro p hp
          rcases List.mem_cons.mp hp with rfl | hp
          · exact N' _ kI
          · rcases List.mem_cons.mp hp with rfl | hp
            · exact N' _ kD
            · rcases List.mem_cons.mp hp with rfl | hp
              · exact N' _ kx
              · exact N' p (kn p hp)
        · intro p hp r hr
          rw [List.mem_singleton.mp hr]
          exact hlt0 hI kDI p hp
        · refine ItemsRest.zero fun h3 tk3 F3 N3 => ?_
          rw [hfr kb km] at F3
          exact done D a b g ta tb tg c m' h3 tk3 klt ko kΦ kg F3 N3
      cases f with
      | ret v => exact hp
      | brk => exact hp
      | next => exact up2 _ hp
      | cont => exact up2 _ hp
  cases f with
  | ret v => exact hp
  | brk => exact hp
  | next => exact up _ hp
  | cont => exact up _ hp
end
theorem r_absG {prog : Program} {w : World} {A : Around} {E : Value → Shared → Prop} {s : Shared} {t : Tok} {x q P y : Int} {Q : Value → Shared → Prop} (k : ∀ (g : Int) u tk, g = gap P q x y → 0 ≤ g → Q (.int g u) { s with toks := tk }) : wpAny (model prog w) A (call (.builtin "abs") [.int (x * q - P * y) t]) Q E s := by
  refine call_abs_int fun u tk => k _ u tk ?_ ?_
  · unfold gap; split <;> omega
  · split <;> omega
theorem r_fdivG {prog : Program} {w : World} {A : Around} {E : Value → Shared → Prop} {s : Shared} {a b : Int} {t u : Tok} {Q : Value → Shared → Prop} (hb : 0 < b) (hb2 : b < 2 ^ 64) (h : ∀ q, q = a.fdiv b → Q (.int q s.toks) { s with toks := s.toks + 1 }) : wpAny (model prog w) A (binaryOp .FloorDiv (.int a t) (.int b u)) Q E s := by
  refine floordiv_int (by omega) (h _ rfl) (Or.inl (PyProof.noPylong_of_log2 ?_))
  have : b.natAbs.log2 < 64 := (Nat.log2_lt (by omega)).mpr (by omega)
  omega
theorem allLt_left {D : Addr} : ∀ {l r : List (Addr × Obj)}, AllLt D (l ++ r) → AllLt D l
  | [], _, _ => trivial
  | _ :: _, _, h => ⟨h.1, allLt_left h.2⟩
theorem allLt_right {D : Addr} : ∀ {l r : List (Addr × Obj)}, AllLt D (l ++ r) → ∀ p ∈ r, p.1 ≠ D
  | [], r, h, p, hp => Nat.ne_of_lt (ktn_ltOf (l := r) h p hp)
  | _ :: _, _, h, p, hp => allLt_right h.2 p hp
local macro_rules | `(tactic| walk_at "pyIter ref") => `(tactic| k_dflt (k_extra "LOOP"))
local macro_rules | `(tactic| walk_at "call builtin:abs") => `(tactic| k_dflt (k_extra "ABS"))
local macro_rules | `(tactic| walk_at "P2Post") => `(tactic| (dsimp only [P2Post]))
local macro_rules | `(tactic| walk_at "P2End") => `(tactic| k_dflt (k_extra "P2END"))
local macro_rules | `(tactic| walk_at "InvEndG") => `(tactic| k_dflt (k_extra "INVEND"))
theorem best_call {w : World} {mean : ExcName → Option Value} {mg mb : Str → Option Value} {dp un : Nat} {gd : Option (List Code)} {cn : Str} {cs : Scope} {a : Addr} {ccd : Value} {cl : List (Str × Addr)} {outer : List Env} {A₀ : Around} {base h₀ : Heap} {L : Addr} {m : Str → Option Value} {news : List (Addr × Obj)} {s : Shared} {Q E : Value → Shared → Prop} {upper lower most : Int} {t u v : Tok} :
   Below A₀ base outer h₀ → Fr h₀ L s.heap m → (hd.heap_39 w.params).In h₀ → News h₀ L s.heap news → Top hd.view_39 (looseW hd.view_39 [Str.ofString "Double"]) mean mg mb h₀ → cs.kind = .function → dp + 1 < recursionLimit → un + 8 < cLine → 0 ≤ upper → upper ≤ 2 ^ 20 → 1 ≤ lower → lower ≤ 1000 → 1 ≤ most → most ≤ 1000 →
   (∀ (D : Addr) (t1 t2 : Tok) (c : Nat) (h' : Heap) (tk' : Nat) (A b : Int), Best upper lower most A b → Fr h₀ L h' m → News h₀ L h' ((D, ({ cls := .type "tuple", data := .seq #[.int A t1, .int b t2] c } : Obj)) :: news) → AllLt D news → Q (.ref D) { s with heap := h', toks := tk' }) →
   wpAny (model PySem.Challenge.rw_aq6037_01.row.prog w) (ktrTop dp un gd cn cs L a ccd cl outer) (call (.ref 48) [.int upper t, .int lower u, .int most v]) Q E s := by
  k_with_none
  w_top off
  k_fill
  intro B F X N T hk hd hu hu0 hu1 hl1 hl2 hm1 hm2 hret
  k_with "LOOP" => ((rename Fr _ _ _ _ => lF'); (rename News _ _ _ _ => lN'); (rename IsRange _ _ _ _ _ _ _ _ => rgX); (with_unfolding_all refine' best_loop (n := most.toNat) upper lower (by rfl) (by rfl) rgX (small_one (by omega) (by omega) (by omega) (by omega)) ((rangeSize_nat _ _).trans (by congr 1; omega)) lF' lN' (by rfl) (by omega) ?_ ?_ ?_); (clear lF' lN'); all_goals ((first | (intro j i D₀ a₀ b₀ g₀ ta₀ tb₀ tg₀ c₀ t₀ u₀ h₁ tk₁ own hij hjn hoff hoD hlt₀ hB₀ hg₀ lF₁ lN₁; have kb₁ := hB₀.2.1; have kb₂ := hB₀.2.2.1) | (intro D₀ a₀ b₀ g₀ ta₀ tb₀ tg₀ c₀ u₀ h₁ tk₁ hlt₀ hB₀ lF₁ lN₁) | (intro i t₀ u₀ h₁ tk₁ own hi0 hoff lF₁ lN₁)); (try k_fold)))
  k_with "LOOP" => ((rename Fr _ _ _ _ => lF'); (rename News _ _ _ _ => lN'); (with_unfolding_all refine' tup2 upper lower (Mid upper lower i q) (Best upper lower (i + 1)) (by rfl) (by rfl) lF' lN' (.head _) ?hs (by rfl) (by rfl) ?_ ?_ ?_); (case hs => (intro p hp; repeat (first | exact hp | apply List.Mem.tail))); (clear lF' lN'); all_goals ((first | (intro I it D₁ a₁ b₁ g₁ ta₁ tb₁ tg₁ c₁ u₁ h₂ tk₂ hI₁ hDI₁ hlt₁ ho₁ hM₁ hg₁ lF₂ lN₂; have kb₃ := hM₁.2.1; have kb₄ := hM₁.2.2.1; have hI₁ := allLt_of hI₁; simp only [AllLt] at hI₁) | (intro D₁ a₁ b₁ g₁ ta₁ tb₁ tg₁ c₁ u₁ h₂ tk₂ hlt₁ ho₁ hB₁ hg₁ lF₂ lN₂) | (intro I it h₂ tk₂ hI₁ lF₂ lN₂; have hI₁ := allLt_of hI₁; simp only [AllLt] at hI₁)); (try k_fold)))
  k_with "P2END" => ((rename Fr _ _ _ _ => lF'); (rename News _ _ _ _ => lN'); (with_unfolding_all refine' p2_end ?hP ?hg lF' lN' (by rfl) ?hm ?hI ?hD ?hx ?hn ?hDI ?hlt ?ho); (case hI => first | exact .head _ | exact .tail _ (.head _)); (case hD => k_mem); (case hx => k_mem); (case hm => (intro z h2 h3; simp only [List.contains_cons, List.contains_nil, Bool.or_false, Bool.or_eq_false_iff, beq_eq_false_iff_ne, ne_eq] at h3; simp [h2, h3])); (case hn => (intro p hp; repeat (first | exact hp | apply List.Mem.tail))); (case hg => assumption); (case hDI => first | assumption | (refine neN ?_; omega)); (case hlt => first | assumption | exact allLt_left (And.right (by assumption)) | exact allLt_left (And.right (And.right (by assumption))) | exact allLt_left (And.right (And.right (And.right (by assumption)))) | exact allLt_left (And.right (And.right (And.right (And.right (by assumption)))))); (case ho => first | assumption | exact allLt_right (l := news) (And.right (by assumption)) | exact allLt_right (l := news) (And.right (And.right (by assumption))) | exact allLt_right (l := news) (And.right (And.right (And.right (by assumption)))) | exact allLt_right (l := news) (And.right (And.right (And.right (And.right (by assumption)))))); (case hP => (try simp only [Int.not_lt, gt_iff_lt] at *); first | (subst hi0; exact mid_first hu0 (by omega) hq) | exact mid_take hB₀ hu0 (by omega) hq hg₀ hg (by omega) | exact mid_keep hB₀ hg₀ hg (by omega) | exact mid_high hM₁ hu0 (by omega) (by omega) hq hg₁ hg (by omega) | exact mid_end hM₁ (by omega) (by omega) hq hg₁ hg (by omega)))
  k_with "INVEND" => ((rename Fr _ _ _ _ => lF'); (rename News _ _ _ _ => lN'); (with_unfolding_all refine' bl_end i (by omega) hB₁ hg₁ lF' lN' (by rfl) ?hm (.head _) ?hn ?ho hoff ho₁ hlt₁); (case hm => (intro z h2 h3; simp only [List.contains_cons, List.contains_nil, Bool.or_false, Bool.or_eq_false_iff, beq_eq_false_iff_ne, ne_eq] at h3; simp [h2, h3])); (case hn => (intro p hp; refine .tail _ (.tail _ (List.mem_append.mpr (.inl hp))))); (case ho => (intro p hp; refine .tail _ (.tail _ (List.mem_append.mpr (.inr hp))))))
  k_with "ABS" => (refine' r_absG ?_; intro g gu gtk hg hg0; (try dsimp only))
  k_with "binaryOp FloorDiv int int" => (refine' r_fdivG ?fd1 ?fd2 ?_; (case fd1 => omega); (case fd2 => omega); intro q hq; (try dsimp only))
  refine wpAny_call ?_
  k_dflt cell_enter
  k_steps
  have e : ((most.toNat : Nat) : Int) = most := by omega
  rw [e] at hB₀
  refine' hret _ _ _ _ _ _ _ _ hB₀ ?e2 (news_drop ?e3 ?e5) ?e4
  case e2 => k_asm
  case e3 => k_asm
  case e5 => (intro p hp; exact .tail _ hp)
  case e4 => exact And.right (by assumption)
end Aq
end

/-! ## Rules for the walk of law -/
section
open PySem PySem.W PyProof.Rows PySem.Calls PySem.Spec PyProof.V
namespace Aq
section
variable {prog : Program} {w : World} {A : Around} {E : Value → Shared → Prop} {s : Shared} {a b n : Int} {t u : Tok} {Q : Value → Shared → Prop}
theorem r_pow2 (h0 : 0 ≤ n) (h7 : n < 7) (k : ∀ (p : Nat) (l : Int), p ≤ 6 → l = 2 ^ p → 1 ≤ l → l ≤ 64 → Q (.int l s.toks) { s with toks := s.toks + 1 }) : wpAny (model prog w) A (binaryOp .Pow (.int 2 t) (.int n u)) Q E s := by
  have e : Builtin.Int.intBits 2 = 2 := by decide +kernel
  refine pow_int h0 (by rw [e]; omega) (k n.toNat _ (by omega) rfl ?_ ?_)
  · have : n = 0 ∨ n = 1 ∨ n = 2 ∨ n = 3 ∨ n = 4 ∨ n = 5 ∨ n = 6 := by omega
    rcases this with h | h | h | h | h | h | h <;> subst h <;> decide
  · have : n = 0 ∨ n = 1 ∨ n = 2 ∨ n = 3 ∨ n = 4 ∨ n = 5 ∨ n = 6 := by omega
    rcases this with h | h | h | h | h | h | h <;> subst h <;> decide
theorem r_modV (hb : 0 < b) (k : ∀ r, r = a.fmod b → 0 ≤ r → r < b → Q (.int r s.toks) { s with toks := s.toks + 1 }) : wpAny (model prog w) A (binaryOp .Mod (.int a t) (.int b u)) Q E s :=
  mod_int' (by omega) (k _ rfl (Int.fmod_nonneg_of_pos a hb) (Int.fmod_lt_of_pos a hb))
theorem r_mulB (ha : 0 ≤ a) (ha2 : a ≤ 1000) (hb : 0 ≤ b) (hb2 : b ≤ 1000) (k : ∀ v, v = a * b → 0 ≤ v → v ≤ 1000000 → Q (.int v s.toks) { s with toks := s.toks + 1 }) : wpAny (model prog w) A (binaryOp .Mult (.int a t) (.int b u)) Q E s := by
  refine mul_int (k _ rfl (Int.mul_nonneg ha hb) ?_) (IntMulOk.of_left (intBits_le_64 (by omega) (by omega)))
  have h1 : a * b ≤ 1000 * b := Int.mul_le_mul_of_nonneg_right ha2 hb
  omega
theorem r_addV (k : ∀ v, v = a + b → Q (.int v s.toks) { s with toks := s.toks + 1 }) : wpAny (model prog w) A (binaryOp .Add (.int a t) (.int b u)) Q E s := PyProof.Rows.add_int (k _ rfl)
theorem r_absS {sg : Bool} {a : Int} {A' : Int} (hA : A' = if sg = true then -a else a) (h0 : 0 ≤ a) (k : ∀ u tk, Q (.int a u) { s with toks := tk }) : wpAny (model prog w) A (call (.builtin "abs") [.int A' t]) Q E s := by
  refine call_abs_int fun u tk => ?_
  have e : (if A' < 0 then -A' else A') = a := by
    cases sg with
    | false => simp only [Bool.false_eq_true, if_false] at hA; split <;> omega
    | true => simp only [if_true] at hA; split <;> omega
  rw [e]
  exact k u tk
theorem r_absH {x q P y : Int} (k : ∀ u tk, 0 ≤ gap P q x y → Q (.int (gap P q x y) u) { s with toks := tk }) : wpAny (model prog w) A (call (.builtin "abs") [.int (x * q - P * y) t]) Q E s := by
  refine call_abs_int fun u tk => ?_
  have e : (if x * q - P * y < 0 then -(x * q - P * y) else (x * q - P * y)) = gap P q x y := by
    unfold gap; split <;> omega
  rw [e]
  exact k u tk (gap_nonneg P q x y)
end
theorem double_callV {w : World} {mean : ExcName → Option Value} {mg mb : Str → Option Value} {dp un : Nat} {gd : Option (List Code)} {cn : Str} {cs : Scope} {a : Addr} {ccd : Value} {cl : List (Str × Addr)} {outer : List Env} {A₀ : Around} {base h₀ : Heap} {L : Addr} {m : Str → Option Value} {news : List (Addr × Obj)} {s : Shared} {Q E : Value → Shared → Prop} {x y : Int} {t u : Tok} {Ψ : Nat → Prop}
   (B : Below A₀ base outer h₀) (F : Fr h₀ L s.heap m) (X : (hd.heap_39 w.params).In h₀) (N : News h₀ L s.heap news) (T : Top hd.view_39 (looseW hd.view_39 [Str.ofString "Double"]) mean mg mb h₀) (hk : cs.kind = .function) (hdp : dp + 1 < recursionLimit) (hu : un + 8 < cLine) (hy : 0 < y) (hx : x.natAbs < 2 ^ 200)
   (hΨ : ∃ V, FlV (decide (x < 0)) (Float64.ofFrac (decide (x < 0)) x.natAbs y.natAbs) V ∧ Ψ V)
   (hret : ∀ (z : UInt64) (V : Nat) t h' tk', FlV (decide (x < 0)) z V → Ψ V → Fr h₀ L h' m → News h₀ L h' news → Q (.float z t) { s with heap := h', toks := tk' }) :
   wpAny (model PySem.Challenge.rw_aq6037_01.row.prog w) (ktrTop dp un gd cn cs L a ccd cl outer) (call (.ref 22) [.int x t, .int y u]) Q E s := by
  obtain ⟨V, h1, h2⟩ := hΨ
  exact double_call B F X N T hk hdp hu hy hx fun t h' tk' F' N' => hret _ V t h' tk' h1 h2 F' N'
theorem double_callW {w : World} {mean : ExcName → Option Value} {mg mb : Str → Option Value} {dp un : Nat} {gd : Option (List Code)} {cn : Str} {cs : Scope} {a : Addr} {ccd : Value} {cl : List (Str × Addr)} {outer : List Env} {A₀ : Around} {base h₀ : Heap} {L : Addr} {m : Str → Option Value} {news : List (Addr × Obj)} {s : Shared} {Q E : Value → Shared → Prop} {x : Int} {t : Tok} {Ψ : Nat → Prop}
   (B : Below A₀ base outer h₀) (F : Fr h₀ L s.heap m) (X : (hd.heap_39 w.params).In h₀) (N : News h₀ L s.heap news) (T : Top hd.view_39 (looseW hd.view_39 [Str.ofString "Double"]) mean mg mb h₀) (hk : cs.kind = .function) (hdp : dp + 1 < recursionLimit) (hu : un + 8 < cLine) (hx : x.natAbs < 2 ^ 200)
   (hΨ : ∃ V, FlV (decide (x < 0)) (Float64.ofFrac (decide (x < 0)) x.natAbs (1 : Int).natAbs) V ∧ Ψ V)
   (hret : ∀ (z : UInt64) (V : Nat) t h' tk', FlV (decide (x < 0)) z V → Ψ V → Fr h₀ L h' m → News h₀ L h' news → Q (.float z t) { s with heap := h', toks := tk' }) :
   wpAny (model PySem.Challenge.rw_aq6037_01.row.prog w) (ktrTop dp un gd cn cs L a ccd cl outer) (call (.ref 22) [.int x t]) Q E s := by
  obtain ⟨V, h1, h2⟩ := hΨ
  exact double1_call B F X N T hk hdp hu hx fun t h' tk' F' N' => hret _ V t h' tk' h1 h2 F' N'
end Aq
end

/-! ## law -/
section
open PySem PySem.W PyProof.Rows PySem.Calls PySem.Spec PyProof.V
namespace Aq
local macro_rules | `(tactic| walk_at "call ref") => `(tactic| k_dflt (k_extra "CALL"))
local macro_rules | `(tactic| walk_at "call builtin:abs") => `(tactic| k_dflt (k_extra "ABS"))
local macro_rules | `(tactic| walk_at "binaryOp Pow int int") => `(tactic| k_dflt (k_extra "POW"))
local macro_rules | `(tactic| walk_at "binaryOp Mod int int") => `(tactic| k_dflt (k_extra "MOD"))
local macro_rules | `(tactic| walk_at "binaryOp Mult int int") => `(tactic| k_dflt (k_extra "MUL"))
local macro_rules | `(tactic| walk_at "binaryOp Add int int") => `(tactic| k_dflt (k_extra "ADD"))
local macro_rules | `(tactic| walk_at "binaryOp FloorDiv int int") => `(tactic| k_dflt (k_extra "FDIV"))
local macro_rules | `(tactic| walk_at "storeName") => `(tactic| k_dflt (k_extra "STORE"))
theorem odd_menu {r odd : Int} (h0 : 0 ≤ r) (h1 : r < 5) (h : List.getD ([1, 3, 5, 7, 9] : List Int) r.toNat 0 = odd) : odd = 1 ∨ odd = 3 ∨ odd = 5 ∨ odd = 7 ∨ odd = 9 := by
  have hc : r = 0 ∨ r = 1 ∨ r = 2 ∨ r = 3 ∨ r = 4 := by omega
  subst h
  rcases hc with h | h | h | h | h <;> subst h <;> decide
theorem odd_small {base odd : Int} (h0 : 0 ≤ base) (h1 : base < 40) (ho : odd = 1 ∨ odd = 3 ∨ odd = 5 ∨ odd = 7 ∨ odd = 9) : (base * odd + 1).natAbs < 2 ^ 200 := by
  rcases ho with h | h | h | h | h <;> subst h <;> omega
theorem told_odd {base odd a A : Int} (h0 : 0 ≤ base) (ho : odd = 1 ∨ odd = 3 ∨ odd = 5 ∨ odd = 7 ∨ odd = 9) (hA : A = if (decide (base * odd + 1 < 0)) = true then -a else a) (ha : a = base * odd + 1) : A = base * odd + 1 := by
  have hp : 0 ≤ base * odd := Int.mul_nonneg h0 (by omega)
  have := told_pos (P := base * odd + 1) (by omega) rfl hA
  omega
theorem holds : PySem.Challenge.rw_aq6037_01.Holds := hd (by
  k_with_none
  k_with "CALL" => ((with_reducible show wpAny _ _ (call (Value.ref 34) _) _ _ _); refine' numbers_call ?k1 ?k2 ?k3 ?k4 ?k5 ?kK ?kd ?ku ?kl ?ki ?kn ?_; (case k1 => k_asm); (case k2 => k_asm); (case k3 => k_asm); (case k4 => k_asm); (case k5 => k_asm); (case kK => exact rfl); (case kd => ktr_room); (case ku => ktr_units); (case kl => k_asm); (case ki => k_asm); (case kn => omega); intro D t1 t2 t3 t4 c h' tk' n1 n2 n3 n4 g1 g2 g3 g4 g5 g6 g7 lF lN; (try dsimp only); (try k_fold))
  k_with "POW" => (refine' r_pow2 (by assumption) (by assumption) ?_; intro p l hp hl hl1 hl2; (try dsimp only))
  k_with "MUL" => ((with_reducible show wpAny _ _ (binaryOp Operator.Mult (Value.int n1 _) (Value.int l _)) _ _ _); refine' r_mulB ?m1 ?m2 ?m3 ?m4 ?_; (case m1 => omega); (case m2 => omega); (case m3 => omega); (case m4 => omega); intro vB hvB hvB0 hvB1; (try dsimp only))
  k_with "MOD" => ((with_reducible show wpAny _ _ (binaryOp Operator.Mod (Value.int n2 _) (Value.int l _)) _ _ _); refine' r_modV ?m1 ?_; (case m1 => omega); intro rP hrP hrP0 hrP1; (try dsimp only))
  k_with "MOD" => ((with_reducible show wpAny _ _ (binaryOp Operator.Mod (Value.int n4 _) (Value.int 30 _)) _ _ _); refine' r_modV ?m1 ?_; (case m1 => omega); intro rM hrM hrM0 hrM1; (try dsimp only))
  k_with "MOD" => ((with_reducible show wpAny _ _ (binaryOp Operator.Mod (Value.int _ _) (Value.int 3 _)) _ _ _); refine' r_modV ?m1 ?_; (case m1 => omega); intro rS hrS hrS0 hrS1; (try dsimp only))
  k_with "MOD" => ((with_reducible show wpAny _ _ (binaryOp Operator.Mod (Value.int n2 _) (Value.int 5 _)) _ _ _); refine' r_modV ?m1 ?_; (case m1 => omega); intro rO hrO hrO0 hrO1; (try dsimp only))
  k_with "ADD" => ((with_reducible show wpAny _ _ (binaryOp Operator.Add (Value.int vB _) (Value.int rP _)) _ _ _); refine' r_addV ?_; intro P hP; have hP0 : 0 ≤ P := (by omega); have hP1 : P ≤ 2 ^ 20 := (by omega); (try dsimp only))
  k_with "FDIV" => (refine' r_fdiv ?m1 ?m2 ?_; (case m1 => omega); (case m2 => omega))
  k_with "CALL" => ((with_reducible show wpAny _ _ (call (Value.ref 22) [Value.int _ _, Value.int l _]) _ _ _); refine' double_callV (Ψ := fun V => V < 2 ^ 100 ∧ (V : Int) * l = P * 2 ^ 60) ?k1 ?k2 ?k3 ?k4 ?k5 ?kK ?kd ?ku ?m1 ?m2 ?m3 ?_; (case k1 => k_asm); (case k2 => k_asm); (case k3 => k_asm); (case k4 => k_asm); (case k5 => k_asm); (case kK => exact rfl); (case kd => ktr_room); (case ku => ktr_units); (case m1 => omega); (case m2 => omega); (case m3 => exact dyadic (by omega) hP0 hP1 hp hl); intro z V tz hz tkz hzV hΨ lF lN; obtain ⟨hV1, hV2⟩ := hΨ; (try dsimp only); (try k_fold))
  k_with "CALL" => ((with_reducible show wpAny _ _ (call (Value.ref 29) [Value.float _ _, Value.int (1 + rM) _]) _ _ _); refine' nf_call (V := V) ?k1 ?k2 ?k3 ?k4 ?k5 ?kK ?kd ?ku (by assumption) hV1 ?m1 ?m2 ?_; (case k1 => k_asm); (case k2 => k_asm); (case k3 => k_asm); (case k4 => k_asm); (case k5 => k_asm); (case kK => exact rfl); (case kd => ktr_room); (case ku => ktr_units); (case m1 => omega); (case m2 => omega); intro Dt ta tb ct ht tkt A b hA lF lN lt; obtain ⟨a, hB, hAe⟩ := hA; replace hB := best_of hV2 (by omega) hB; (try simp only [AllLt, and_true] at lt); (try dsimp only); (try k_fold))
  k_with "CALL" => ((with_reducible show wpAny _ _ (call (Value.ref 48) _) _ _ _); refine' best_call ?k1 ?k2 ?k3 ?k4 ?k5 ?kK ?kd ?ku hP0 hP1 hl1 ?m1 ?m2 ?m3 ?_; (case k1 => k_asm); (case k2 => k_asm); (case k3 => k_asm); (case k4 => k_asm); (case k5 => k_asm); (case kK => exact rfl); (case kd => ktr_room); (case ku => ktr_units); (case m1 => omega); (case m2 => omega); (case m3 => omega); intro Db tb1 tb2 cb hb tkb ab bb hBb lF lN lt; (try simp only [AllLt, and_true] at lt); obtain ⟨e1, e2⟩ := best_unique hB hBb; subst e1; subst e2; (first | (have hAA := told_neg (x := -1 * P) (by omega) hP0 (by omega) hB (by omega) hAe) | (have hAA := told_pos (x := 1 * P) hP0 (by omega) hAe)); subst hAA; have kb0 := hB.1; have kb1 := hB.2.1; have kb2 := hB.2.2.1; (try dsimp only); (try k_fold))
  k_with "CALL" => ((with_reducible show wpAny _ _ (call (Value.ref 41) [Value.int a _, Value.int b _]) _ _ _); refine' divided_call ?k1 ?k2 ?k3 ?k4 ?k5 ?kK ?kd ?ku ?m1 ?m2 ?_; (case k1 => k_asm); (case k2 => k_asm); (case k3 => k_asm); (case k4 => k_asm); (case k5 => k_asm); (case kK => exact rfl); (case kd => ktr_room); (case ku => ktr_units); (case m1 => omega); (case m2 => omega); intro tg hgh tkg lF lN; have hgd : ((Int.gcd a b : Nat) : Int) = 1 := (by rw [gcd_one hB]; rfl); rw [hgd]; (try dsimp only); (try k_fold))
  k_with "CALL" => ((with_reducible show wpAny _ _ (call (Value.ref 41) [Value.int P _, Value.int l _]) _ _ _); refine' divided_call ?k1 ?k2 ?k3 ?k4 ?k5 ?kK ?kd ?ku ?m1 ?m2 ?_; (case k1 => k_asm); (case k2 => k_asm); (case k3 => k_asm); (case k4 => k_asm); (case k5 => k_asm); (case kK => exact rfl); (case kd => ktr_room); (case ku => ktr_units); (case m1 => omega); (case m2 => omega); intro tg hgh tkg lF lN; generalize hg : ((Int.gcd P l : Nat) : Int) = g; obtain ⟨kg1, kg2⟩ := gcd_bounds hl1 hg.symm; (try dsimp only); (try k_fold))
  k_with "CALL" => ((with_reducible show wpAny _ _ (call (Value.ref 29) [Value.float _ _, Value.int (2 * (1 + rM)) _]) _ _ _); refine' nf_call (V := V) ?k1 ?k2 ?k3 ?k4 ?k5 ?kK ?kd ?ku (by assumption) hV1 ?m1 ?m2 ?_; (case k1 => k_asm); (case k2 => k_asm); (case k3 => k_asm); (case k4 => k_asm); (case k5 => k_asm); (case kK => exact rfl); (case kd => ktr_room); (case ku => ktr_units); (case m1 => omega); (case m2 => omega); intro Da ta2 tb2 ca ha tka A2 b2 hA lF lN lt; obtain ⟨a2, hB2, hA2e⟩ := hA; replace hB2 := best_of hV2 (by omega) hB2; have hAg := again_le hB hB2; have ka0 := hB2.1; have ka1 := hB2.2.1; have ka2 := hB2.2.2.1; (try simp only [AllLt, and_true] at lt); (try dsimp only); (try k_fold))
  k_with "CALL" => ((with_reducible show wpAny _ _ (call (Value.ref 29) [Value.float _ _, Value.int l _]) _ _ _); refine' nf_call (V := V) ?k1 ?k2 ?k3 ?k4 ?k5 ?kK ?kd ?ku (by assumption) hV1 ?m1 ?m2 ?_; (case k1 => k_asm); (case k2 => k_asm); (case k3 => k_asm); (case k4 => k_asm); (case k5 => k_asm); (case kK => exact rfl); (case kd => ktr_room); (case ku => ktr_units); (case m1 => omega); (case m2 => omega); intro De te1 te2 ce he tke A3 b3 hA lF lN lt; obtain ⟨a3, hB3, hA3e⟩ := hA; replace hB3 := best_of hV2 (by omega) hB3; (try simp only [AllLt, and_true] at lt); (first | (have hAA := told_neg (x := -1 * P) (by omega) hP0 (by omega) hB3 (by omega) hA3e) | (have hAA := told_pos (x := 1 * P) hP0 (by omega) hA3e)); subst hAA; obtain ⟨e1, e2⟩ := best_unique hB3 (exact_best hP0 hl1 hg.symm); subst e1; subst e2; (try dsimp only); (try k_fold))
  k_with "ABS" => (refine' r_absS hA2e ka0 ?_; intro ua tka2; (try dsimp only))
  k_with "ABS" => (refine' r_absH ?_; intro ua tka2 h0a; (try dsimp only))
  k_with "STORE" => ((with_reducible show wpAny _ _ (storeName _ _ (Value.int (List.getD _ _ _) _)) _ _ _); generalize hE : List.getD ([1, 3, 5, 7, 9] : List Int) rO.toNat 0 = odd; have ho := odd_menu hrO0 hrO1 hE)
  k_with "CALL" => ((with_reducible show wpAny _ _ (call (Value.ref 22) [Value.int (n1 * odd + 1) _, Value.int odd _]) _ _ _); refine' double_callV (Ψ := fun V => V < 2 ^ 100 ∧ 18 * (V * odd - (n1 * odd + 1) * 2 ^ 60) < 2 ^ 60 ∧ 18 * ((n1 * odd + 1) * 2 ^ 60 - V * odd) < 2 ^ 60) ?k1 ?k2 ?k3 ?k4 ?k5 ?kK ?kd ?ku ?m1 ?m2 ?m3 ?_; (case k1 => k_asm); (case k2 => k_asm); (case k3 => k_asm); (case k4 => k_asm); (case k5 => k_asm); (case kK => exact rfl); (case kd => ktr_room); (case ku => ktr_units); (case m1 => omega); (case m2 => exact odd_small g1 g2 ho); (case m3 => exact odd_double g1 g2 ho); intro z V tz hz tkz hzV hΨ lF lN; obtain ⟨hO1, hO2, hO3⟩ := hΨ; (try dsimp only); (try k_fold))
  k_with "CALL" => ((with_reducible show wpAny _ _ (call (Value.ref 29) [Value.float _ _, Value.int odd _]) _ _ _); refine' nf_call (V := V) ?k1 ?k2 ?k3 ?k4 ?k5 ?kK ?kd ?ku (by assumption) hO1 ?m1 ?m2 ?_; (case k1 => k_asm); (case k2 => k_asm); (case k3 => k_asm); (case k4 => k_asm); (case k5 => k_asm); (case kK => exact rfl); (case kd => ktr_room); (case ku => ktr_units); (case m1 => omega); (case m2 => omega); intro Do to1 to2 co h_o tko A4 b4 hA lF lN lt; obtain ⟨a4, hB4, hA4e⟩ := hA; obtain ⟨e1, e2⟩ := odd_best g1 ho hO2 hO3 hB4; have hAA := told_odd g1 ho hA4e e1; (try simp only [AllLt, and_true] at lt); subst A4; subst b4; (try dsimp only); (try k_fold))
  k_with "CALL" => ((with_reducible show wpAny _ _ (call (Value.ref 22) [Value.int n1 _]) _ _ _); refine' double_callW (Ψ := fun V => V < 2 ^ 100 ∧ (V : Int) * 1 = n1 * 2 ^ 60) ?k1 ?k2 ?k3 ?k4 ?k5 ?kK ?kd ?ku ?m2 ?m3 ?_; (case k1 => k_asm); (case k2 => k_asm); (case k3 => k_asm); (case k4 => k_asm); (case k5 => k_asm); (case kK => exact rfl); (case kd => ktr_room); (case ku => ktr_units); (case m2 => omega); (case m3 => exact dyadic (p := 0) (.inl rfl) g1 (by omega) (by omega) rfl); intro z V tz hz tkz hzV hΨ lF lN; obtain ⟨hW1, hW2⟩ := hΨ; (try dsimp only); (try k_fold))
  k_with "CALL" => ((with_reducible show wpAny _ _ (call (Value.ref 29) [Value.float _ _, Value.int (1 + rM) _]) _ _ _); refine' nf_call (V := V) ?k1 ?k2 ?k3 ?k4 ?k5 ?kK ?kd ?ku (by assumption) hW1 ?m1 ?m2 ?_; (case k1 => k_asm); (case k2 => k_asm); (case k3 => k_asm); (case k4 => k_asm); (case k5 => k_asm); (case kK => exact rfl); (case kd => ktr_room); (case ku => ktr_units); (case m1 => omega); (case m2 => omega); intro Dw tw1 tw2 cw h_w tkw A5 b5 hA lF lN lt; obtain ⟨a5, hB5, hA5e⟩ := hA; obtain ⟨e1, e2⟩ := best_whole g1 (by omega) (best_of hW2 (by omega) hB5); have hAA := told_pos g1 rfl hA5e; have hAB : A5 = n1 := (by omega); (try simp only [AllLt, and_true] at lt); clear hAA hA5e; subst A5; subst b5; (try dsimp only); (try k_fold))
  k_go0
  (all_goals try k_fold)
  k_steps

  )
end Aq
end

theorem PySem.Challenge.cw_aq6037_01_holds : PySem.Challenge.rw_aq6037_01.Holds :=
  Aq.holds
