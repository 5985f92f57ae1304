/- The plain law of bounded draws: which word is taken, and what number comes of it. No Go function in sight. -/
namespace Go.Proofs.Ytmfeeeaajelfjaa.Pl
/-- A function behind a door that no reckoning opens: it is known by its equation alone. (So that neither a walk nor the kernel writes the long numerals out.) -/
theorem lock_ex {α : Type} (a : α) : Nonempty { b : α // b = a } := ⟨⟨a, rfl⟩⟩
noncomputable def mulHi : Nat → Nat → Nat := (Classical.choice (lock_ex (α := Nat → Nat → Nat) (fun x y => x * y / 18446744073709551616))).1
theorem mulHi_def (x y : Nat) : mulHi x y = x * y / 18446744073709551616 := congrFun (congrFun ((Classical.choice (lock_ex (α := Nat → Nat → Nat) (fun x y => x * y / 18446744073709551616))).2) x) y
noncomputable def mulLo : Nat → Nat → Nat := (Classical.choice (lock_ex (α := Nat → Nat → Nat) (fun x y => x * y % 18446744073709551616))).1
theorem mulLo_def (x y : Nat) : mulLo x y = x * y % 18446744073709551616 := congrFun (congrFun ((Classical.choice (lock_ex (α := Nat → Nat → Nat) (fun x y => x * y % 18446744073709551616))).2) x) y
noncomputable def thr : Nat → Nat := (Classical.choice (lock_ex (α := Nat → Nat) (fun n => (18446744073709551616 - n) % n))).1
theorem thr_def (n : Nat) : thr n = (18446744073709551616 - n) % n := congrFun ((Classical.choice (lock_ex (α := Nat → Nat) (fun n => (18446744073709551616 - n) % n))).2) n
noncomputable def wd : List Nat → Nat → Nat := (Classical.choice (lock_ex (α := List Nat → Nat → Nat) (fun xs t => xs[t]?.getD 18446744073709551615))).1
theorem wd_def (xs : List Nat) (t : Nat) : wd xs t = xs[t]?.getD 18446744073709551615 := congrFun (congrFun ((Classical.choice (lock_ex (α := List Nat → Nat → Nat) (fun xs t => xs[t]?.getD 18446744073709551615))).2) xs) t
noncomputable def low : Nat → Nat → Nat := (Classical.choice (lock_ex (α := Nat → Nat → Nat) (fun x n => x &&& (n - 1)))).1
theorem low_def (x n : Nat) : low x n = x &&& (n - 1) := congrFun (congrFun ((Classical.choice (lock_ex (α := Nat → Nat → Nat) (fun x n => x &&& (n - 1)))).2) x) n
noncomputable def pow2 : Nat → Bool := (Classical.choice (lock_ex (α := Nat → Bool) (fun n => n &&& (n - 1) == 0))).1
theorem pow2_def (n : Nat) : pow2 n = (n &&& (n - 1) == 0) := congrFun ((Classical.choice (lock_ex (α := Nat → Bool) (fun n => n &&& (n - 1) == 0))).2) n
theorem mulHi_lt {x y : Nat} (hx : x < 18446744073709551616) (hy : y < 18446744073709551616) : mulHi x y < 18446744073709551616 := by
  rw [mulHi_def]
  exact Nat.div_lt_of_lt_mul (Nat.mul_lt_mul'' hx hy)
theorem mulHi_below {x n : Nat} (hx : x < 18446744073709551616) (hn : 0 < n) : mulHi x n < n := by
  rw [mulHi_def]
  exact Nat.div_lt_of_lt_mul (Nat.mul_lt_mul_of_pos_right hx hn)
theorem mulLo_lt (x y : Nat) : mulLo x y < 18446744073709551616 := by rw [mulLo_def]; exact Nat.mod_lt _ (by omega)
theorem thr_lt {n : Nat} (hn : 0 < n) : thr n < n := by rw [thr_def]; exact Nat.mod_lt _ hn
theorem low_lt {x n : Nat} (hn : 0 < n) : low x n < n := by
  rw [low_def]
  exact Nat.lt_of_le_of_lt Nat.and_le_right (by omega)
theorem low_le (x n : Nat) : low x n ≤ x := by rw [low_def]; exact Nat.and_le_left
/-- the product of two words by halves, as spec.Product reckons it -/
theorem product_eq (x y : Nat) (hx : x < 18446744073709551616) (hy : y < 18446744073709551616) :
    ((x % 4294967296 * (y % 4294967296)) / 4294967296 + (x / 4294967296 * (y % 4294967296)) % 4294967296 + (x % 4294967296 * (y / 4294967296)) % 4294967296) % 4294967296 * 4294967296 + (x % 4294967296 * (y % 4294967296)) % 4294967296 = x * y % 18446744073709551616 ∧
    x / 4294967296 * (y / 4294967296) + (x / 4294967296 * (y % 4294967296)) / 4294967296 + (x % 4294967296 * (y / 4294967296)) / 4294967296 + ((x % 4294967296 * (y % 4294967296)) / 4294967296 + (x / 4294967296 * (y % 4294967296)) % 4294967296 + (x % 4294967296 * (y / 4294967296)) % 4294967296) / 4294967296 = x * y / 18446744073709551616 := by
  have ex : x = x / 4294967296 * 4294967296 + x % 4294967296 := by omega
  have ey : y = y / 4294967296 * 4294967296 + y % 4294967296 := by omega
  have hxy : x * y = x / 4294967296 * (y / 4294967296) * 18446744073709551616 + (x / 4294967296 * (y % 4294967296) + x % 4294967296 * (y / 4294967296)) * 4294967296 + x % 4294967296 * (y % 4294967296) := by
    generalize x / 4294967296 = a at *
    generalize x % 4294967296 = b at *
    generalize y / 4294967296 = c at *
    generalize y % 4294967296 = d at *
    subst ex ey
    grind
  rw [hxy]
  generalize x / 4294967296 * (y / 4294967296) = A
  generalize x / 4294967296 * (y % 4294967296) = B
  generalize x % 4294967296 * (y / 4294967296) = C
  generalize x % 4294967296 * (y % 4294967296) = D
  constructor <;> omega



theorem wd_lt {xs : List Nat} (h : ∀ x ∈ xs, x < 18446744073709551616) (t : Nat) : wd xs t < 18446744073709551616 := by
  rw [wd_def]
  rcases ht : xs[t]? with _ | x
  · simp
  · simpa using h x (List.mem_of_getElem? ht)
theorem wd_in {xs : List Nat} {t : Nat} (h : t < xs.length) : xs[t]?.getD 0 = wd xs t := by
  rw [wd_def, List.getElem?_eq_getElem h]; rfl
theorem wd_out {xs : List Nat} {t : Nat} (h : xs.length ≤ t) : wd xs t = 18446744073709551615 := by
  rw [wd_def, List.getElem?_eq_none h]; rfl
/-- The word of ones is never refused. -/
theorem ones_gen (B n : Nat) (h1 : 0 < n) (h2 : n < B) : (B - n) % n ≤ (B - 1) * n % B := by
  have e : (B - 1) * n = (B - n) + (n - 1) * B := by
    obtain ⟨k, rfl⟩ : ∃ k, B = n + k := ⟨B - n, by omega⟩
    obtain ⟨m, rfl⟩ : ∃ m, n = m + 1 := ⟨n - 1, by omega⟩
    have : m + 1 + k - 1 = m + k := by omega
    rw [this]
    have : m + 1 + k - (m + 1) = k := by omega
    rw [this]
    have : m + 1 - 1 = m := by omega
    rw [this]
    grind
  rw [e, Nat.add_mul_mod_self_right, Nat.mod_eq_of_lt (show B - n < B by omega)]
  exact Nat.mod_le _ _
theorem ones_in {n : Nat} (h1 : 0 < n) (h2 : n < 18446744073709551616) : thr n ≤ mulLo 18446744073709551615 n := by
  rw [thr_def, mulLo_def]
  exact ones_gen 18446744073709551616 n h1 h2

/-- The number that is drawn below n from the t-th word on (n no power of 2), and the words taken till then. -/
noncomputable def drawF : Nat → List Nat → Nat → Nat → Nat × Nat
  | 0, xs, n, t => (mulHi (wd xs t) n, t + 1)
  | f + 1, xs, n, t => if thr n ≤ mulLo (wd xs t) n then (mulHi (wd xs t) n, t + 1) else drawF f xs n (t + 1)
noncomputable def draw (xs : List Nat) (n t : Nat) : Nat × Nat := drawF (xs.length - t) xs n t
theorem draw_in {xs : List Nat} {n t : Nat} (h : thr n ≤ mulLo (wd xs t) n) : draw xs n t = (mulHi (wd xs t) n, t + 1) := by
  unfold draw
  cases xs.length - t with
  | zero => simp only [drawF]
  | succ f => simp only [drawF, if_pos h]
theorem draw_out {xs : List Nat} {n t : Nat} (h1 : 0 < n) (h2 : n < 18446744073709551616) (h : mulLo (wd xs t) n < thr n) : t < xs.length ∧ draw xs n t = draw xs n (t + 1) := by
  have ht : t < xs.length := by
    rcases Nat.lt_or_ge t xs.length with hh | hh
    · exact hh
    · have := ones_in h1 h2
      rw [wd_out hh] at h
      omega
  refine ⟨ht, ?_⟩
  unfold draw
  rw [show xs.length - t = (xs.length - (t + 1)) + 1 by omega]
  simp only [drawF, if_neg (Nat.not_le.2 h)]
/-- A number below n, and the words taken till then. -/
noncomputable def belowN (xs : List Nat) (n t : Nat) : Nat × Nat := if pow2 n = true then (low (wd xs t) n, t + 1) else draw xs n t
theorem drawF_facts (xs : List Nat) (hx : ∀ x ∈ xs, x < 18446744073709551616) (n : Nat) (h1 : 0 < n) : ∀ (f t : Nat), (drawF f xs n t).1 < n ∧ t + 1 ≤ (drawF f xs n t).2 ∧ (drawF f xs n t).2 ≤ t + f + 1 := by
  intro f
  induction f with
  | zero => intro t; simp only [drawF]; exact ⟨mulHi_below (wd_lt hx t) h1, by omega, by omega⟩
  | succ f ih =>
    intro t
    simp only [drawF]
    split
    · exact ⟨mulHi_below (wd_lt hx t) h1, by simp, by simp⟩
    · have := ih (t + 1)
      exact ⟨this.1, by omega, by omega⟩
theorem belowN_lt {xs : List Nat} (hx : ∀ x ∈ xs, x < 18446744073709551616) {n : Nat} (h1 : 0 < n) (t : Nat) : (belowN xs n t).1 < n := by
  unfold belowN
  split
  · exact low_lt h1
  · exact (drawF_facts xs hx n h1 _ t).1
theorem belowN_taken {xs : List Nat} (hx : ∀ x ∈ xs, x < 18446744073709551616) {n : Nat} (h1 : 0 < n) (t : Nat) : t + 1 ≤ (belowN xs n t).2 ∧ (belowN xs n t).2 ≤ t + xs.length + 1 := by
  unfold belowN
  split
  · exact ⟨Nat.le_refl _, by simp⟩
  · have := drawF_facts xs hx n h1 (xs.length - t) t
    exact ⟨this.2.1, by unfold draw; omega⟩
end Go.Proofs.Ytmfeeeaajelfjaa.Pl
