/- The plain arithmetic of the recurrence of 128 bits: what (*PCG).next, spec.Product, spec.Plus and spec.Times reckon with words of 64 bits. No Go function in sight. -/
namespace Go.Proofs.YtglfeoiakhnkgaaDoor.Pl
/-- A function behind a door that no reckoning opens: it is known by its equation alone. (So that neither a walk nor the kernel writes the long numerals out.) -/
theorem lock_ex {α : Type} (a : α) : Nonempty { b : α // b = a } := ⟨⟨a, rfl⟩⟩
noncomputable def mulHi : Nat → Nat → Nat := (Classical.choice (lock_ex (α := Nat → Nat → Nat) (fun x y => x * y / 18446744073709551616))).1
theorem mulHi_def (x y : Nat) : mulHi x y = x * y / 18446744073709551616 := congrFun (congrFun ((Classical.choice (lock_ex (α := Nat → Nat → Nat) (fun x y => x * y / 18446744073709551616))).2) x) y
noncomputable def mulLo : Nat → Nat → Nat := (Classical.choice (lock_ex (α := Nat → Nat → Nat) (fun x y => x * y % 18446744073709551616))).1
theorem mulLo_def (x y : Nat) : mulLo x y = x * y % 18446744073709551616 := congrFun (congrFun ((Classical.choice (lock_ex (α := Nat → Nat → Nat) (fun x y => x * y % 18446744073709551616))).2) x) y
noncomputable def addLo : Int → Int → Int → Int := (Classical.choice (lock_ex (α := Int → Int → Int → Int) (fun x y c => (x + y + c) % 18446744073709551616))).1
theorem addLo_def (x y c : Int) : addLo x y c = (x + y + c) % 18446744073709551616 := congrFun (congrFun (congrFun ((Classical.choice (lock_ex (α := Int → Int → Int → Int) (fun x y c => (x + y + c) % 18446744073709551616))).2) x) y) c
noncomputable def addHi : Int → Int → Int → Int := (Classical.choice (lock_ex (α := Int → Int → Int → Int) (fun x y c => (x + y + c) / 18446744073709551616))).1
theorem addHi_def (x y c : Int) : addHi x y c = (x + y + c) / 18446744073709551616 := congrFun (congrFun (congrFun ((Classical.choice (lock_ex (α := Int → Int → Int → Int) (fun x y c => (x + y + c) / 18446744073709551616))).2) x) y) c
noncomputable def st : Nat → Nat → Nat := (Classical.choice (lock_ex (α := Nat → Nat → Nat) (fun hi lo => hi * 18446744073709551616 + lo))).1
theorem st_def (hi lo : Nat) : st hi lo = hi * 18446744073709551616 + lo := congrFun (congrFun ((Classical.choice (lock_ex (α := Nat → Nat → Nat) (fun hi lo => hi * 18446744073709551616 + lo))).2) hi) lo
noncomputable def hiW : Nat → Nat := (Classical.choice (lock_ex (α := Nat → Nat) (fun s => s / 18446744073709551616))).1
theorem hiW_def (s : Nat) : hiW s = s / 18446744073709551616 := congrFun ((Classical.choice (lock_ex (α := Nat → Nat) (fun s => s / 18446744073709551616))).2) s
noncomputable def loW : Nat → Nat := (Classical.choice (lock_ex (α := Nat → Nat) (fun s => s % 18446744073709551616))).1
theorem loW_def (s : Nat) : loW s = s % 18446744073709551616 := congrFun ((Classical.choice (lock_ex (α := Nat → Nat) (fun s => s % 18446744073709551616))).2) s
noncomputable def step : Nat → Nat := (Classical.choice (lock_ex (α := Nat → Nat) (fun s => (s * 47026247687942121848144207491837523525 + 117397592171526113268558934119004209487) % 340282366920938463463374607431768211456))).1
theorem step_def (s : Nat) : step s = (s * 47026247687942121848144207491837523525 + 117397592171526113268558934119004209487) % 340282366920938463463374607431768211456 := congrFun ((Classical.choice (lock_ex (α := Nat → Nat) (fun s => (s * 47026247687942121848144207491837523525 + 117397592171526113268558934119004209487) % 340282366920938463463374607431768211456))).2) s
noncomputable def add : Nat → Nat → Nat := (Classical.choice (lock_ex (α := Nat → Nat → Nat) (fun s t => (s + t) % 340282366920938463463374607431768211456))).1
theorem add_def (s t : Nat) : add s t = (s + t) % 340282366920938463463374607431768211456 := congrFun (congrFun ((Classical.choice (lock_ex (α := Nat → Nat → Nat) (fun s t => (s + t) % 340282366920938463463374607431768211456))).2) s) t
noncomputable def mul : Nat → Nat → Nat := (Classical.choice (lock_ex (α := Nat → Nat → Nat) (fun s t => (s * t) % 340282366920938463463374607431768211456))).1
theorem mul_def (s t : Nat) : mul s t = (s * t) % 340282366920938463463374607431768211456 := congrFun (congrFun ((Classical.choice (lock_ex (α := Nat → Nat → Nat) (fun s t => (s * t) % 340282366920938463463374607431768211456))).2) s) t
noncomputable def opp : Nat → Nat := (Classical.choice (lock_ex (α := Nat → Nat) (fun s => (340282366920938463463374607431768211456 - s) % 340282366920938463463374607431768211456))).1
theorem opp_def (s : Nat) : opp s = (340282366920938463463374607431768211456 - s) % 340282366920938463463374607431768211456 := congrFun ((Classical.choice (lock_ex (α := Nat → Nat) (fun s => (340282366920938463463374607431768211456 - s) % 340282366920938463463374607431768211456))).2) s
theorem st_lt {hi lo : Nat} (h : hi < 18446744073709551616) (l : lo < 18446744073709551616) : st hi lo < 340282366920938463463374607431768211456 := by simp only [st_def]; omega
theorem hiW_lt {s : Nat} (h : s < 340282366920938463463374607431768211456) : hiW s < 18446744073709551616 := by simp only [hiW_def]; omega
theorem loW_lt (s : Nat) : loW s < 18446744073709551616 := by simp only [loW_def]; omega
theorem st_hl (s : Nat) : st (hiW s) (loW s) = s := by simp only [st_def, hiW_def, loW_def]; omega
theorem hiW_st {hi lo : Nat} (l : lo < 18446744073709551616) : hiW (st hi lo) = hi := by simp only [hiW_def, st_def]; omega
theorem loW_st {hi lo : Nat} (l : lo < 18446744073709551616) : loW (st hi lo) = lo := by simp only [loW_def, st_def]; omega
theorem mulHi_lt {x y : Nat} (hx : x < 18446744073709551616) (hy : y < 18446744073709551616) : mulHi x y < 18446744073709551616 := by
  simp only [mulHi_def]
  exact Nat.div_lt_of_lt_mul (Nat.mul_lt_mul'' hx hy)
theorem mulLo_lt (x y : Nat) : mulLo x y < 18446744073709551616 := by rw [mulLo_def]; exact Nat.mod_lt _ (by omega)

theorem step_lt (s : Nat) : step s < 340282366920938463463374607431768211456 := by rw [step_def]; exact Nat.mod_lt _ (by omega)

theorem hi_of (n q r : Nat) (h : n = q * 18446744073709551616 + r) : n % 340282366920938463463374607431768211456 / 18446744073709551616 = (q + r / 18446744073709551616) % 18446744073709551616 := by
  subst h; omega
theorem lo_of (n q r : Nat) (h : n = q * 18446744073709551616 + r) : n % 340282366920938463463374607431768211456 % 18446744073709551616 = r % 18446744073709551616 := by
  subst h; omega

theorem next_aux (a b c d : Nat) :
    (c % 18446744073709551616 + 1442695040888963407) % 18446744073709551616 = (c + 1442695040888963407) % 18446744073709551616 ∧
    ((c / 18446744073709551616 + (a % 18446744073709551616 + b % 18446744073709551616) % 18446744073709551616) % 18446744073709551616 + 6364136223846793005 + (c % 18446744073709551616 + 1442695040888963407) / 18446744073709551616) % 18446744073709551616 =
      ((d * 18446744073709551616 + a + b + 6364136223846793005) + (c + 1442695040888963407) / 18446744073709551616) % 18446744073709551616 := by
  constructor <;> omega

/-- what (*PCG).next reckons -/
theorem next_eq (hi lo : Nat) :
    ((lo * 4865540595714422341 % 18446744073709551616 + 1442695040888963407) % 18446744073709551616 = step (hi * 18446744073709551616 + lo) % 18446744073709551616) ∧
    (((lo * 4865540595714422341 / 18446744073709551616 + (hi * 4865540595714422341 % 18446744073709551616 + lo * 2549297995355413924 % 18446744073709551616) % 18446744073709551616) % 18446744073709551616 + 6364136223846793005 + (lo * 4865540595714422341 % 18446744073709551616 + 1442695040888963407) / 18446744073709551616) % 18446744073709551616 = step (hi * 18446744073709551616 + lo) / 18446744073709551616) := by
  simp only [step_def]
  have e : (hi * 18446744073709551616 + lo) * 47026247687942121848144207491837523525 + 117397592171526113268558934119004209487 = (hi * 2549297995355413924 * 18446744073709551616 + hi * 4865540595714422341 + lo * 2549297995355413924 + 6364136223846793005) * 18446744073709551616 + (lo * 4865540595714422341 + 1442695040888963407) := by omega
  rw [hi_of _ _ _ e, lo_of _ _ _ e]
  exact next_aux _ _ _ _

/-- the product of two words by halves, as spec.Product reckons it -/
theorem product_eq (x y : Nat) (hx : x < 18446744073709551616) (hy : y < 18446744073709551616) :
    ((x % 4294967296 * (y % 4294967296)) / 4294967296 + (x / 4294967296 * (y % 4294967296)) % 4294967296 + (x % 4294967296 * (y / 4294967296)) % 4294967296) % 4294967296 * 4294967296 + (x % 4294967296 * (y % 4294967296)) % 4294967296 = x * y % 18446744073709551616 ∧
    x / 4294967296 * (y / 4294967296) + (x / 4294967296 * (y % 4294967296)) / 4294967296 + (x % 4294967296 * (y / 4294967296)) / 4294967296 + ((x % 4294967296 * (y % 4294967296)) / 4294967296 + (x / 4294967296 * (y % 4294967296)) % 4294967296 + (x % 4294967296 * (y / 4294967296)) % 4294967296) / 4294967296 = x * y / 18446744073709551616 := by
  have ex : x = x / 4294967296 * 4294967296 + x % 4294967296 := by omega
  have ey : y = y / 4294967296 * 4294967296 + y % 4294967296 := by omega
  have hxy : x * y = x / 4294967296 * (y / 4294967296) * 18446744073709551616 + (x / 4294967296 * (y % 4294967296) + x % 4294967296 * (y / 4294967296)) * 4294967296 + x % 4294967296 * (y % 4294967296) := by
    generalize x / 4294967296 = a at *
    generalize x % 4294967296 = b at *
    generalize y / 4294967296 = c at *
    generalize y % 4294967296 = d at *
    subst ex ey
    grind
  rw [hxy]
  generalize x / 4294967296 * (y / 4294967296) = A
  generalize x / 4294967296 * (y % 4294967296) = B
  generalize x % 4294967296 * (y / 4294967296) = C
  generalize x % 4294967296 * (y % 4294967296) = D
  constructor <;> omega


/-- spec.Plus -/
theorem plus_eq (a b c d : Nat) (_ha : a < 18446744073709551616) (hb : b < 18446744073709551616) (_hc : c < 18446744073709551616) (hd : d < 18446744073709551616) :
    (b + d) % 18446744073709551616 = add (a * 18446744073709551616 + b) (c * 18446744073709551616 + d) % 18446744073709551616 ∧
    ((b + d) % 18446744073709551616 < b → ((a + c) % 18446744073709551616 + 1) % 18446744073709551616 = add (a * 18446744073709551616 + b) (c * 18446744073709551616 + d) / 18446744073709551616) ∧
    (b ≤ (b + d) % 18446744073709551616 → (a + c) % 18446744073709551616 = add (a * 18446744073709551616 + b) (c * 18446744073709551616 + d) / 18446744073709551616) := by
  simp only [add_def]
  refine ⟨?_, ?_, ?_⟩ <;> omega

/-- spec.Times -/
theorem times_eq (a b c d : Nat) :
    b * d % 18446744073709551616 = mul (a * 18446744073709551616 + b) (c * 18446744073709551616 + d) % 18446744073709551616 ∧
    (b * d / 18446744073709551616 + (a * d % 18446744073709551616 + b * c % 18446744073709551616) % 18446744073709551616) % 18446744073709551616 = mul (a * 18446744073709551616 + b) (c * 18446744073709551616 + d) / 18446744073709551616 := by
  simp only [mul_def]
  have e : (a * 18446744073709551616 + b) * (c * 18446744073709551616 + d) = (a * c * 18446744073709551616 + a * d + b * c) * 18446744073709551616 + b * d := by grind
  rw [hi_of _ _ _ e, lo_of _ _ _ e]
  generalize a * c = p
  generalize a * d = q
  generalize b * c = r
  generalize b * d = s
  constructor <;> omega

/-- The constants of the recurrence, word by word. -/
def FHi : Nat := 2549297995355413924
def FLo : Nat := 4865540595714422341
def AHi : Nat := 6364136223846793005
def ALo : Nat := 1442695040888963407
theorem FHi_lt : FHi < 18446744073709551616 := by unfold FHi; omega
theorem FLo_lt : FLo < 18446744073709551616 := by unfold FLo; omega
theorem AHi_lt : AHi < 18446744073709551616 := by unfold AHi; omega
theorem ALo_lt : ALo < 18446744073709551616 := by unfold ALo; omega
def F : Nat := 47026247687942121848144207491837523525
def A : Nat := 117397592171526113268558934119004209487
theorem st_F : st FHi FLo = F := by rw [st_def]; decide
theorem st_A : st AHi ALo = A := by rw [st_def]; decide
theorem hiW_F : hiW F = FHi := by rw [hiW_def]; decide
theorem loW_F : loW F = FLo := by rw [loW_def]; decide
theorem hiW_A : hiW A = AHi := by rw [hiW_def]; decide
theorem loW_A : loW A = ALo := by rw [loW_def]; decide
theorem F_lt : F < 340282366920938463463374607431768211456 := by decide
theorem A_lt : A < 340282366920938463463374607431768211456 := by decide
theorem step_eq (s : Nat) : step s = add (mul s F) A := by
  simp only [step_def, add_def, mul_def, F, A]
  omega
theorem add_lt (s t : Nat) : add s t < 340282366920938463463374607431768211456 := by rw [add_def]; exact Nat.mod_lt _ (by omega)
theorem mul_lt (s t : Nat) : mul s t < 340282366920938463463374607431768211456 := by rw [mul_def]; exact Nat.mod_lt _ (by omega)

theorem opp_lt (s : Nat) : opp s < 340282366920938463463374607431768211456 := by rw [opp_def]; exact Nat.mod_lt _ (by omega)
theorem opp_words (s : Nat) (hs : s < 340282366920938463463374607431768211456) : opp s = add (st (18446744073709551615 - hiW s) (18446744073709551615 - loW s)) (st 0 1) := by
  have h1 := hiW_lt hs
  have h2 := loW_lt s
  have h3 := st_hl s
  rw [st_def] at h3
  rw [opp_def, add_def, st_def, st_def]
  congr 1
  omega
theorem hiW_one : hiW 1 = 0 := by rw [hiW_def]
theorem loW_one : loW 1 = 1 := by rw [loW_def]
theorem st_two : st 0 2 = 2 := by rw [st_def]
theorem sum_gen (M F A s d : Nat) : ((s + d) % M * F + A) % M = ((s * F + A) % M + d * F % M) % M := by
  rw [Nat.add_mod, Nat.mul_mod, Nat.mod_mod, ← Nat.mul_mod, ← Nat.add_mod, ← Nat.add_mod]
  congr 1
  grind
theorem step_sum (s d : Nat) : step (add s d) = add (step s) (mul d F) := by
  rw [step_def, add_def, add_def, step_def, mul_def]
  exact sum_gen _ _ _ _ _
theorem step_zero (h : hiW (step (st 0 0)) = 0) (g : loW (step (st 0 0)) = 0) : False := by
  have e := st_hl (step (st 0 0))
  rw [h, g, st_def, step_def] at e
  omega
theorem mod_lin (M a b c : Nat) : (a % M + b) * c % M = (a + b) * c % M := by
  rw [Nat.mul_mod, Nat.mod_add_mod, ← Nat.mul_mod]
theorem back_gen (M F A A' I q s : Nat) (hA : A + A' = M) (hI : F * I = q * M + 1) (h : s < M) : ((s * F + A) % M + A') * I % M = s := by
  rw [mod_lin]
  have e : (s * F + A + A') * I = s + (s * q + I) * M := by
    rw [Nat.add_assoc, hA]
    grind
  rw [e, Nat.add_mul_mod_self_right, Nat.mod_eq_of_lt h]
/-- The factor has an inverse: a state is found from the one behind it. -/
theorem back_step (s : Nat) (h : s < 340282366920938463463374607431768211456) :
    (step s + 222884774749412350194815673312764001969) * 10455382779074951524300553632856583309 % 340282366920938463463374607431768211456 = s :=
  by rw [step_def]; exact back_gen _ _ _ _ _ 1444910074800496865995794780814255154 s (by decide) (by decide) h
theorem step_inj {s t : Nat} (hs : s < 340282366920938463463374607431768211456) (ht : t < 340282366920938463463374607431768211456) (h : step s = step t) : s = t := by
  rw [← back_step s hs, ← back_step t ht, h]
theorem apart (a b c d : Nat) (ha : a < 18446744073709551616) (hb : b < 18446744073709551616) (hc : c < 18446744073709551616) (hd : d < 18446744073709551616) (h : ¬ (a = c ∧ b = d)) :
    hiW (step (st a b)) ≠ hiW (step (st c d)) ∨ hiW (step (st a b)) = hiW (step (st c d)) ∧ loW (step (st a b)) ≠ loW (step (st c d)) := by
  by_cases h1 : hiW (step (st a b)) = hiW (step (st c d))
  · refine .inr ⟨h1, fun h2 => h ?_⟩
    have e : step (st a b) = step (st c d) := by rw [← st_hl (step (st a b)), ← st_hl (step (st c d)), h1, h2]
    have e' := step_inj (st_lt ha hb) (st_lt hc hd) e
    exact ⟨by have := congrArg hiW e'; rwa [hiW_st hb, hiW_st hd] at this, by have := congrArg loW e'; rwa [loW_st hb, loW_st hd] at this⟩
  · exact .inl h1

/-- So many steps. -/
noncomputable def steps : Nat → Nat → Nat
  | 0, s => s
  | k + 1, s => step (steps k s)
theorem steps_lt (k : Nat) {s : Nat} (h : s < 340282366920938463463374607431768211456) : steps k s < 340282366920938463463374607431768211456 := by
  cases k with
  | zero => exact h
  | succ k => exact step_lt _
theorem steps_zero (s : Nat) : steps 0 s = s := by simp only [steps]
theorem steps_succ (k s : Nat) : steps (k + 1) s = step (steps k s) := by simp only [steps]
theorem steps_succ' (k s : Nat) : steps (k + 1) s = steps k (step s) := by
  induction k with
  | zero => simp only [steps]
  | succ k ih => rw [steps_succ, ih, steps_succ]
theorem steps_add (j k s : Nat) : steps (j + k) s = steps k (steps j s) := by
  induction k with
  | zero => rw [Nat.add_zero, steps_zero]
  | succ k ih => rw [← Nat.add_assoc, steps_succ, ih, steps_succ]
theorem step_mod4 (s : Nat) : step s % 4 = (s + 3) % 4 := by simp only [step_def]; omega
theorem loW_mod4 (s : Nat) : loW s % 4 = s % 4 := by simp only [loW_def]; omega
theorem steps_one (s : Nat) : steps 1 s = step s := by rw [steps_succ, steps_zero]
theorem odd_first (hi lo : Nat) : loW (steps 1 (st hi lo)) % 2 ≠ lo % 2 := by
  have h1 := step_mod4 (st hi lo)
  have h2 := loW_mod4 (step (st hi lo))
  have h3 : st hi lo % 4 = lo % 4 := by simp only [st_def]; omega
  rw [steps_one]
  omega
theorem odd_fourth (hi lo : Nat) : loW (steps 4 (st hi lo)) % 4 = lo % 4 := by
  have h3 : st hi lo % 4 = lo % 4 := by simp only [st_def]; omega
  have e : steps 4 (st hi lo) = step (step (step (step (st hi lo)))) := by
    rw [steps_succ 3, steps_succ 2, steps_succ 1, steps_one]
  rw [loW_mod4, e]
  have a := step_mod4 (st hi lo)
  have b := step_mod4 (step (st hi lo))
  have c := step_mod4 (step (step (st hi lo)))
  have d := step_mod4 (step (step (step (st hi lo))))
  omega

/-- The rounds in which spec.Before finds the factor's inverse. -/
noncomputable def nb : Nat → Nat
  | 0 => 1
  | k + 1 => mul (nb k) (add 2 (opp (mul F (nb k))))
theorem nb_zero : nb 0 = 1 := by simp only [nb]
theorem nb_succ (k : Nat) : nb (k + 1) = mul (nb k) (add 2 (opp (mul F (nb k)))) := by simp only [nb]
theorem nb_lt (k : Nat) : nb k < 340282366920938463463374607431768211456 := by
  cases k with
  | zero => rw [nb_zero]; omega
  | succ k => rw [nb_succ]; exact mul_lt _ _
theorem nb_round (b c : Nat) (h : b * ((2 + (340282366920938463463374607431768211456 - F * b % 340282366920938463463374607431768211456) % 340282366920938463463374607431768211456) % 340282366920938463463374607431768211456) % 340282366920938463463374607431768211456 = c) : mul b (add 2 (opp (mul F b))) = c := by
  rw [mul_def, add_def, opp_def, mul_def]; exact h
theorem nb_at1 : nb 1 = 293256119232996341615230399939930687933 := by rw [nb_succ, nb_zero]; exact nb_round _ _ (by decide)
theorem nb_at2 : nb 2 = 133907998645868570759649094232496594829 := by rw [nb_succ, nb_at1]; exact nb_round _ _ (by decide)
theorem nb_at3 : nb 3 = 73478199869051842270286203466020924557 := by rw [nb_succ, nb_at2]; exact nb_round _ _ (by decide)
theorem nb_at4 : nb 4 = 217549507008995809648135847584096758925 := by rw [nb_succ, nb_at3]; exact nb_round _ _ (by decide)
theorem nb_at5 : nb 5 = 228939309720781899193504171661779184781 := by rw [nb_succ, nb_at4]; exact nb_round _ _ (by decide)
theorem nb_at6 : nb 6 = 10455382779074951524300553632856583309 := by rw [nb_succ, nb_at5]; exact nb_round _ _ (by decide)
theorem nb_at7 : nb 7 = 10455382779074951524300553632856583309 := by rw [nb_succ, nb_at6]; exact nb_round _ _ (by decide)
theorem before_step (s : Nat) (h : s < 340282366920938463463374607431768211456) : mul (add (step s) (opp A)) (nb 7) = s := by
  have e : (340282366920938463463374607431768211456 - A) % 340282366920938463463374607431768211456 = 222884774749412350194815673312764001969 := by decide
  rw [nb_at7, mul_def, add_def, opp_def, e, Nat.mul_mod, Nat.mod_mod, ← Nat.mul_mod]
  exact back_step s h
end Go.Proofs.YtglfeoiakhnkgaaDoor.Pl
