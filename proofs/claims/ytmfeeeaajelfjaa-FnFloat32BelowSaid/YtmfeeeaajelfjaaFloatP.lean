/- Plain law of the floats that are drawn: a whole number below 2^(p+1), by 2^(p+1), is a float from 0 on and below 1. -/
import Derived.Laws.FloatArith
import Derived.Laws.Cover2
namespace Go.Proofs.Ytmfeeeaajelfjaa
open Ieee

/-- What is asked of a format: p bits of fraction, 2E rungs of exponents. -/
structure Fmt (f : Format) (p E : Nat) : Prop where
  frac : f.fractionBits = p
  bin : f.binade = 2 ^ p
  least : f.leastPlace = 2 - (E : Int) - p
  inf : f.infRung = (2 * E - 1) * 2 ^ p
  sign : f.signWeight = 2 * E * 2 ^ p
  room : p + 3 ≤ E
theorem fmt64 : Fmt double 52 1024 := ⟨rfl, rfl, by decide, by decide, by decide, by decide⟩
theorem fmt32 : Fmt single 23 128 := ⟨rfl, rfl, by decide, by decide, by decide, by decide⟩

theorem read_at {f : Format} {p E q s : Nat} (h : Fmt f p E) (h1 : 2 ^ p ≤ s) (h2 : s < 2 * 2 ^ p) (hq : q + 2 < 2 * E) : f.read (q * 2 ^ p + s) = .number false s (f.leastPlace + q) := by
  unfold Format.read
  rw [h.bin, h.inf, h.sign]
  have hB : 0 < 2 ^ p := Nat.two_pow_pos _
  generalize 2 ^ p = B at *
  obtain ⟨r, rfl⟩ : ∃ r, s = B + r := ⟨s - B, by omega⟩
  have hr : r < B := by omega
  have e : q * B + (B + r) = r + B * (q + 1) := by rw [Nat.mul_add, Nat.mul_comm q B]; omega
  have l1 : r + B * (q + 1) < (2 * E - 1) * B := by
    have : B * (q + 2) ≤ B * (2 * E - 1) := Nat.mul_le_mul_left _ (by omega)
    rw [Nat.mul_comm (2 * E - 1) B]
    have e2 : B * (q + 2) = B * (q + 1) + B := by rw [← Nat.mul_succ]
    omega
  have l2 : r + B * (q + 1) < 2 * E * B := Nat.lt_of_lt_of_le l1 (Nat.mul_le_mul_right _ (by omega))
  have l3 : ¬ r + B * (q + 1) < B := by
    have : B * 1 ≤ B * (q + 1) := Nat.mul_le_mul_left _ (by omega)
    omega
  have d : (r + B * (q + 1)) / B = q + 1 := by rw [Nat.add_mul_div_left _ _ hB, Nat.div_eq_of_lt hr]; omega
  have m : (r + B * (q + 1)) % B = r := by rw [Nat.add_mul_mod_self_left, Nat.mod_eq_of_lt hr]
  rw [e]
  simp only [Nat.div_eq_of_lt l2, Nat.mod_eq_of_lt l2, if_neg l3, if_pos l1, d, m]
  simp

theorem read_low {f : Format} {p E r : Nat} (h : Fmt f p E) (h1 : r < 2 ^ p) : f.read r = .number false r f.leastPlace := by
  unfold Format.read
  rw [h.bin, h.inf, h.sign]
  have hr := h.room
  have hB : 0 < 2 ^ p := Nat.two_pow_pos _
  generalize 2 ^ p = B at *
  have l2 : r < 2 * E * B := by
    have : 1 * B ≤ 2 * E * B := Nat.mul_le_mul_right _ (by omega)
    omega
  simp only [Nat.div_eq_of_lt l2, Nat.mod_eq_of_lt l2, if_pos h1]
  simp

theorem cut_zero (n : Nat) : Toward.even.cut false n 0 = n := by
  unfold Toward.cut
  simp [Nat.mod_one]
theorem cut_three (n : Nat) (h : 0 < n) : Toward.even.cut false (n * 8) 3 = n := by
  unfold Toward.cut
  have hl : 3 ≤ (n * 8).log2 := (Nat.le_log2 (by omega)).2 (by omega)
  rw [Nat.min_eq_left (by omega)]
  have e : 1 <<< 3 = 8 := rfl
  simp only [e, Nat.mul_div_cancel _ (show 0 < 8 by omega), Nat.mul_mod_left]
  simp

theorem log2_at {p s : Nat} (h1 : 2 ^ p ≤ s) (h2 : s < 2 * 2 ^ p) : s.log2 = p := by
  have h0 : 0 < 2 ^ p := Nat.two_pow_pos _
  have a : p ≤ s.log2 := (Nat.le_log2 (by omega)).2 h1
  have b : s.log2 < p + 1 := (Nat.log2_lt (by omega)).2 (by rw [Nat.pow_succ]; omega)
  omega

/-- A whole number with its first digit at place p. -/
theorem up_at {p x : Nat} (h0 : 0 < x) (hx : x.log2 ≤ p) : 2 ^ p ≤ x * 2 ^ (p - x.log2) ∧ x * 2 ^ (p - x.log2) < 2 * 2 ^ p := by
  have a : 2 ^ x.log2 ≤ x := Nat.log2_self_le (by omega)
  have b : x < 2 ^ (x.log2 + 1) := Nat.lt_log2_self
  have e : 2 ^ p = 2 ^ x.log2 * 2 ^ (p - x.log2) := by rw [← Nat.pow_add]; congr 1; omega
  have hp : 0 < 2 ^ (p - x.log2) := Nat.two_pow_pos _
  constructor
  · rw [e]; exact Nat.mul_le_mul_right _ a
  · rw [e, ← Nat.mul_assoc]
    have : 2 * 2 ^ x.log2 = 2 ^ (x.log2 + 1) := by rw [Nat.pow_succ, Nat.mul_comm]
    rw [this]
    exact Nat.mul_lt_mul_of_pos_right b hp

theorem nearest_int {f : Format} {p E x : Nat} (h : Fmt f p E) (h0 : 0 < x) (hx : x.log2 ≤ p) : f.nearest false x 0 = (x.log2 + E - 2) * 2 ^ p + x * 2 ^ (p - x.log2) := by
  obtain ⟨u1, u2⟩ := up_at h0 hx
  have hr := h.room
  have hl : max ((0 : Int) + x.log2 - p) (2 - (E : Int) - p) = (x.log2 : Int) - p := by omega
  unfold Format.nearest
  rw [if_neg (by omega), h.frac, h.least, h.bin, h.inf]
  simp only [hl]
  have e1 : (0 - ((x.log2 : Int) - p)).toNat = p - x.log2 := by omega
  have e2 : ((x.log2 : Int) - p - 0).toNat = 0 := by omega
  have e3 : ((x.log2 : Int) - p - (2 - (E : Int) - p)).toNat = x.log2 + E - 2 := by omega
  rw [e1, e2, e3, cut_zero, Nat.shiftLeft_eq]
  unfold Format.word
  rw [if_neg (by simp), Nat.min_eq_left]
  generalize x * 2 ^ (p - x.log2) = s at *
  generalize 2 ^ p = B at *
  have : (x.log2 + E - 2 + 2) * B ≤ (2 * E - 1) * B := Nat.mul_le_mul_right _ (by omega)
  rw [Nat.add_mul] at this
  omega

theorem nearest_zero (f : Format) (i : Int) : f.nearest false 0 i = 0 := by
  unfold Format.nearest Format.word
  simp

theorem nearest_part {f : Format} {p E s l : Nat} (h : Fmt f p E) (h1 : 2 ^ p ≤ s) (h2 : s < 2 * 2 ^ p) (hl : l ≤ p) :
    f.nearest false (s * 8) ((l : Int) - 2 * p - 4) = (l + E - p - 3) * 2 ^ p + s := by
  have hr := h.room
  have h0 : 0 < 2 ^ p := Nat.two_pow_pos _
  have hlg : (s * 8).log2 = p + 3 := log2_at (by rw [Nat.pow_add]; omega) (by rw [Nat.pow_add]; omega)
  have hm : max ((l : Int) - 2 * p - 4 + ((p + 3 : Nat) : Int) - p) (2 - (E : Int) - p) = (l : Int) - 2 * p - 1 := by omega
  unfold Format.nearest
  rw [if_neg (by omega), h.frac, h.least, h.bin, h.inf, hlg]
  simp only [hm]
  have e1 : ((l : Int) - 2 * p - 4 - ((l : Int) - 2 * p - 1)).toNat = 0 := by omega
  have e2 : ((l : Int) - 2 * p - 1 - ((l : Int) - 2 * p - 4)).toNat = 3 := by omega
  have e3 : ((l : Int) - 2 * p - 1 - (2 - (E : Int) - p)).toNat = l + E - p - 3 := by omega
  rw [e1, e2, e3, Nat.shiftLeft_zero, cut_three s (by omega)]
  unfold Format.word
  rw [if_neg (by simp), Nat.min_eq_left]
  generalize 2 ^ p = B at *
  have : (l + E - p - 3 + 2) * B ≤ (2 * E - 1) * B := Nat.mul_le_mul_right _ (by omega)
  rw [Nat.add_mul] at this
  omega

/-- The word of 2^(p+1). -/
theorem read_whole {f : Format} {p E : Nat} (h : Fmt f p E) : f.read ((p + E - 1) * 2 ^ p + 2 ^ p) = .number false (2 ^ p) 1 := by
  have h0 : 0 < 2 ^ p := Nat.two_pow_pos _
  have hr := h.room
  rw [read_at h (Nat.le_refl _) (by omega) (by omega), h.least]
  congr 1
  omega

theorem div_pos {f : Format} {p E x : Nat} (h : Fmt f p E) (h0 : 0 < x) (hx : x.log2 ≤ p) :
    f.div (f.nearest false x 0) ((p + E - 1) * 2 ^ p + 2 ^ p) = some ((x.log2 + E - p - 3) * 2 ^ p + x * 2 ^ (p - x.log2)) := by
  obtain ⟨u1, u2⟩ := up_at h0 hx
  have hr := h.room
  have hB : 0 < 2 ^ p := Nat.two_pow_pos _
  unfold Format.div
  rw [nearest_int h h0 hx, read_at h u1 u2 (by omega), read_whole h, h.frac, h.least]
  simp only [Datum.quotient]
  rw [if_neg (by omega), Nat.log2_two_pow, log2_at u1 u2]
  have e1 : p + 2 + p - p = p + 2 := by omega
  rw [e1, Nat.shiftLeft_eq]
  have e2 : x * 2 ^ (p - x.log2) * 2 ^ (p + 2) = x * 2 ^ (p - x.log2) * 4 * 2 ^ p := by rw [Nat.pow_add, Nat.mul_comm (2 ^ p), ← Nat.mul_assoc]
  rw [e2, Nat.mul_div_cancel _ hB, Nat.mul_mod_left]
  simp only [Option.map_some, Format.write]
  have e3 : 2 * (x * 2 ^ (p - x.log2) * 4) + ((0 : Nat) != 0).toNat = x * 2 ^ (p - x.log2) * 8 := by simp; omega
  have e4 : (2 - (E : Int) - p + ((x.log2 + E - 2 : Nat) : Int) - 1 - ((p + 2 : Nat) : Int) - 1) = (x.log2 : Int) - 2 * p - 4 := by omega
  rw [e4]
  congr 1
  rw [show (false ^^ false) = false from rfl, e3]
  exact nearest_part h u1 u2 hx

theorem div_zero {f : Format} {p E : Nat} (h : Fmt f p E) : f.div (f.nearest false 0 0) ((p + E - 1) * 2 ^ p + 2 ^ p) = some 0 := by
  have hB : 0 < 2 ^ p := Nat.two_pow_pos _
  unfold Format.div
  rw [nearest_zero, read_low h hB, read_whole h]
  simp only [Datum.quotient]
  rw [if_neg (by omega)]
  simp [Format.write, nearest_zero]

theorem drawn_float {f : Format} {p E x : Nat} (h : Fmt f p E) (hx : x < 2 ^ (p + 1)) : ∃ r, f.div (f.nearest false x 0) ((p + E - 1) * 2 ^ p + 2 ^ p) = some r ∧ r < (E - 1) * 2 ^ p := by
  have hr := h.room
  have hB : 0 < 2 ^ p := Nat.two_pow_pos _
  rcases Nat.eq_zero_or_pos x with h0 | h0
  · subst h0
    exact ⟨0, div_zero h, Nat.mul_pos (by omega) hB⟩
  · have hl : x.log2 ≤ p := by have := (Nat.log2_lt (by omega : x ≠ 0)).2 hx; omega
    obtain ⟨u1, u2⟩ := up_at h0 hl
    refine ⟨_, div_pos h h0 hl, ?_⟩
    generalize x * 2 ^ (p - x.log2) = s at *
    generalize 2 ^ p = B at *
    have : (x.log2 + E - p - 3 + 2) * B ≤ (E - 1) * B := Nat.mul_le_mul_right _ (by omega)
    rw [Nat.add_mul] at this
    omega

theorem compare_lt {a b : Int} (h : a < b) : compare a b = .lt := by
  simp [compare, compareOfLessAndEq, h]
theorem compare_nonneg {a : Int} (h : 0 ≤ a) : compare a 0 = .gt ∨ compare a 0 = .eq := by
  rcases Int.lt_or_eq_of_le h with h | h
  · left
    have h1 : ¬ a < 0 := by omega
    have h2 : ¬ a = 0 := by omega
    simp [compare, compareOfLessAndEq, h1, h2]
  · right; subst h; simp [compare, compareOfLessAndEq]

theorem order_one {f : Format} {p E r : Nat} (h : Fmt f p E) (hr : r < (E - 1) * 2 ^ p) : f.order r ((E - 1) * 2 ^ p) = some .lt := by
  have hB : 0 < 2 ^ p := Nat.two_pow_pos _
  have hE := h.room
  have e1 : (E - 1) * 2 ^ p = (E - 2) * 2 ^ p + 2 ^ p := by rw [← Nat.succ_mul]; congr 1; omega
  unfold Format.order
  rw [show f.read ((E - 1) * 2 ^ p) = .number false (2 ^ p) (f.leastPlace + (E - 2 : Nat)) by rw [e1]; exact read_at h (Nat.le_refl _) (by omega) (by omega)]
  by_cases hlo : r < 2 ^ p
  · rw [read_low h hlo]
    simp only [Datum.order, signed]
    congr 1
    have b1 : min f.leastPlace (f.leastPlace + (E - 2 : Nat)) = f.leastPlace := by omega
    rw [b1]
    refine compare_lt ?_
    rw [if_neg (by simp), if_neg (by simp), Nat.shiftLeft_eq, Nat.shiftLeft_eq]
    have e2 : (f.leastPlace - f.leastPlace).toNat = 0 := by omega
    rw [e2]
    have : 2 ^ p * 1 ≤ 2 ^ p * 2 ^ (f.leastPlace + (E - 2 : Nat) - f.leastPlace).toNat := Nat.mul_le_mul_left _ (Nat.two_pow_pos _)
    omega
  · have hd : 0 < r / 2 ^ p := Nat.div_pos (by omega) hB
    have hd2 : r / 2 ^ p < E - 1 := (Nat.div_lt_iff_lt_mul hB).2 hr
    have hmod := Nat.mod_lt r hB
    have er : r = (r / 2 ^ p - 1) * 2 ^ p + (2 ^ p + r % 2 ^ p) := by
      have := Nat.div_add_mod r (2 ^ p)
      have e3 : (r / 2 ^ p - 1) * 2 ^ p + 2 ^ p = 2 ^ p * (r / 2 ^ p) := by rw [← Nat.succ_mul, Nat.mul_comm]; congr 1; omega
      omega
    have hrd : f.read r = .number false (2 ^ p + r % 2 ^ p) (f.leastPlace + (r / 2 ^ p - 1 : Nat)) := by
      conv => lhs; rw [er]
      exact read_at h (by omega) (by omega) (by omega)
    rw [hrd]
    simp only [Datum.order, signed]
    congr 1
    have b1 : min (f.leastPlace + (r / 2 ^ p - 1 : Nat)) (f.leastPlace + (E - 2 : Nat)) = f.leastPlace + (r / 2 ^ p - 1 : Nat) := by omega
    rw [b1]
    refine compare_lt ?_
    rw [if_neg (by simp), if_neg (by simp), Nat.shiftLeft_eq, Nat.shiftLeft_eq]
    have e2 : (f.leastPlace + (r / 2 ^ p - 1 : Nat) - (f.leastPlace + (r / 2 ^ p - 1 : Nat))).toNat = 0 := by omega
    rw [e2]
    have hk : 1 ≤ (f.leastPlace + (E - 2 : Nat) - (f.leastPlace + (r / 2 ^ p - 1 : Nat))).toNat := by omega
    have hk2 : 2 ^ 1 ≤ 2 ^ (f.leastPlace + (E - 2 : Nat) - (f.leastPlace + (r / 2 ^ p - 1 : Nat))).toNat := Nat.pow_le_pow_right (by omega) hk
    have : 2 ^ p * 2 ^ 1 ≤ 2 ^ p * 2 ^ (f.leastPlace + (E - 2 : Nat) - (f.leastPlace + (r / 2 ^ p - 1 : Nat))).toNat := Nat.mul_le_mul_left _ hk2
    omega

theorem order_zero {f : Format} {p E r : Nat} (h : Fmt f p E) (hr : r < (E - 1) * 2 ^ p) : f.order r 0 = some .gt ∨ f.order r 0 = some .eq := by
  have hB : 0 < 2 ^ p := Nat.two_pow_pos _
  have hE := h.room
  have key : ∃ m i, f.read r = .number false m i := by
    by_cases hlo : r < 2 ^ p
    · exact ⟨_, _, read_low h hlo⟩
    · have hd : 0 < r / 2 ^ p := Nat.div_pos (by omega) hB
      have hd2 : r / 2 ^ p < E - 1 := (Nat.div_lt_iff_lt_mul hB).2 hr
      have hmod := Nat.mod_lt r hB
      have er : r = (r / 2 ^ p - 1) * 2 ^ p + (2 ^ p + r % 2 ^ p) := by
        have := Nat.div_add_mod r (2 ^ p)
        have e3 : (r / 2 ^ p - 1) * 2 ^ p + 2 ^ p = 2 ^ p * (r / 2 ^ p) := by rw [← Nat.succ_mul, Nat.mul_comm]; congr 1; omega
        omega
      refine ⟨2 ^ p + r % 2 ^ p, f.leastPlace + (r / 2 ^ p - 1 : Nat), ?_⟩
      conv => lhs; rw [er]
      exact read_at h (by omega) (by omega) (by omega)
  obtain ⟨m, i, e⟩ := key
  unfold Format.order
  rw [e, read_low h hB]
  simp only [Datum.order, signed]
  rw [if_neg (by simp), if_neg (by simp), Nat.zero_shiftLeft]
  rcases compare_nonneg (a := ((m <<< (i - min i f.leastPlace).toNat : Nat) : Int)) (Int.natCast_nonneg _) with c | c
  · exact .inl (congrArg some c)
  · exact .inr (congrArg some c)
end Go.Proofs.Ytmfeeeaajelfjaa
