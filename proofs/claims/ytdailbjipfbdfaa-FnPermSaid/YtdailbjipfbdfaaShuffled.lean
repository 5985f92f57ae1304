/- Contract of the reference's (*Source).Shuffled. -/
import Derived.Test.YtdailbjipfbdfaaMix
namespace Go.Proofs.Ytdailbjipfbdfaa
open Go.RowKit

theorem srcT_from (A : Option Addr) (n c : Nat) (xs : List Nat) (w : World) (hn : n ≤ 2147483647) (hs : Sl w (fun _ => False) A n xs) (hx : ∀ x ∈ xs, x < 18446744073709551616) :
    SrcT (fun g => w.heap.size ≤ g) w.heap.size A n c xs (w.alloc (.cells #[.slice A n c, .int .i64 0] 41)) 0 := by
  refine ⟨Whole.new _ _ _, ⟨hs.1, fun h0 => ?_⟩, Nat.le_refl _, hn, hx⟩
  obtain ⟨g, o, e, _, hc⟩ := hs.2 h0
  refine ⟨g, o, e, fun hg => ?_, fun i hi => cell_later ((Below.refl _ _).alloc (Nat.le_refl _) _) (hc i hi)⟩
  have := World.block_lt_of_cell? _ _ (hc 0 h0)
  simp at this
  omega
theorem SrcT.other {X : Nat → Prop} {b G : Nat} {A : Option Addr} {n c t : Nat} {xs : List Nat} {w w' : World} (h : SrcT X b A n c xs w t) (hg : w.grownBy w' (some G)) (hX : X G) (hb : b ≠ G) : SrcT X b A n c xs w' t :=
  ⟨Whole.grown h.1 hg (by intro e; injection e with e; exact hb e), h.2.1.grown hg hX, h.2.2⟩

theorem own_swap {w : World} {base G m c : Nat} {ys : List Int} (h2 : w.ownsRow base 3 1 (.slice (some ⟨G, 0, none⟩) m c) m (ivals ys)) (i j : Nat) :
    ((w.setCell ⟨G, i, none⟩ (.int .i64 (ys[j]?.getD 0))).setCell ⟨G, j, none⟩ (.int .i64 (ys[i]?.getD 0))).drew.ownsRow base 3 1 (.slice (some ⟨G, 0, none⟩) m c) m (ivals (swp ys i j)) ∧
    w.grownBy ((w.setCell ⟨G, i, none⟩ (.int .i64 (ys[j]?.getD 0))).setCell ⟨G, j, none⟩ (.int .i64 (ys[i]?.getD 0))).drew (some G) := by
  obtain ⟨a1, a2⟩ := h2.stored i (.int .i64 (ys[j]?.getD 0))
  obtain ⟨b1, b2⟩ := a1.stored j (.int .i64 (ys[i]?.getD 0))
  refine ⟨?_, grow_drew (grow_trans a2 b2)⟩
  rw [ivals_set, ivals_set] at b1
  exact b1.kept (w' := World.drew _) ⟨rfl, rfl, rfl, Nat.le_refl _, fun _ _ _ => rfl⟩ (.inr (by simp [Value.ownBlock]) : _ ∨ _ ≠ none)
theorem own_cell {w : World} {base G m c : Nat} {ys : List Int} (h : w.ownsRow base 3 1 (.slice (some ⟨G, 0, none⟩) m c) m (ivals ys)) {i : Nat} (hi : i < m) : w.cell? ⟨G, i, none⟩ = some (.int .i64 (ys[i]?.getD 0)) := by
  have hl : ys.length = m := by have := h.1; simpa [ivals] using this
  rw [h.cellAt i (by omega)]
  exact ivals_get ys i (by omega)

/-- What a round of Shuffled holds. -/
def ShT (X : Nat → Prop) (b : Nat) (A : Option Addr) (n c : Nat) (xs : List Nat) (B base G m cc : Nat) (w0 : World) (res : List Int × Nat) (k : Nat) (wr : World) : Prop :=
  ∃ ys t, SrcT X b A n c xs wr t ∧ wr.ownsRow base 3 1 (.slice (some ⟨G, 0, none⟩) m cc) m (ivals ys) ∧ Below B w0 wr ∧ shuf xs k ys t = res ∧ t + k * 2147483648 ≤ m * 2147483648

set_option maxHeartbeats 2000000 in
theorem shuffled_pos {X : Nat → Prop} {b : Nat} {A : Option Addr} {n c : Nat} {xs : List Nat} {w : World} (ad : Addr) (m d : Nat) (ys : List Int) (B : Nat) (hm : m ≤ 4096) (h0 : 0 < m)
    (hsrc : SrcT X b A n c xs w 0) (hX : ∀ g, B ≤ g → X g) (hBb : B ≤ b) (hBw : B ≤ w.heap.size) (hs : ISl w (some ad) m ys) :
    Calls Try.prog 21 #[.pointer (some ⟨b, 0, none⟩), .slice (some ad) m d] w fun e w' => ∃ A' c', e = .returned (.slice A' m c') ∧
      ISl w' A' m (shuf xs m ys 0).1 ∧ SrcT X b A n c xs w' (shuf xs m ys 0).2 ∧ Below B w w' := by
  obtain ⟨i0, hi0, hz0, hz1, hz2⟩ := info_parts info_int
  have hown := World.ownsRow_lit (base := w.heap.size) (e := 3) (size := 1) w #[] 0 (Nat.le_refl _) (by unfold maxLen; omega) (by simp)
  have hcell : ∀ j u, (ivals ys)[j]? = some u → (w.alloc (.cells #[] 3)).cell? (ad.add j) = some u := by
    intro j u hu
    have hj : j < ys.length := by
      rcases Nat.lt_or_ge j ys.length with h | h
      · exact h
      · simp [ivals, List.getElem?_eq_none h] at hu
    rw [ivals_get ys j hj] at hu
    injection hu with hu
    subst hu
    obtain ⟨g, o, e, hc⟩ := hs.2 (by rw [← hs.1]; omega)
    injection e with e
    subst e
    rw [show (⟨g, o, none⟩ : Addr).add j = ⟨g, o + j, none⟩ from by unfold Addr.add; split <;> simp_all]
    exact cell_later ((Below.refl _ _).alloc (Nat.le_refl _) _) (hc j (by rw [← hs.1]; exact hj))
  have hlen : (ivals ys).length = m * 1 := by simp [ivals, hs.1]
  have hxn := hsrc.2.2.2.1
  have hxl : xs.length ≤ 2147483647 := by rw [hsrc.2.1.1]; exact hxn
  have hx := Lib.hid hsrc.2.2.2.2
  have hblt := Whole.lt hsrc.1
  have HO := Lib.hid hown
  have HC := Lib.hid hcell
  have HL := Lib.hid hlen
  have HS := Lib.hid hsrc
  have HX := Lib.hid hX
  clear hown hcell hlen hs hsrc hX hxn
  go_enter Try.func21, Try.ntmps21
  go_wp2_with (at_builtin; refine wpList_append_own _ rfl _ _ 24 rfl w.heap.size 3 i0 (.int .i64 0) 1 8 Try.underlying24 hi0 hz0 hz1 hz2 rfl (by decide) _ _ _ rfl HO.out ad m d (ivals ys) rfl HL.out HC.out ?c2 ?c3 ?c4 (by simp) ?_)
  case c2 =>
    intro u hu
    simp only [ivals, List.mem_map] at hu
    obtain ⟨x, _, rfl⟩ := hu
    rfl
  case c3 => unfold maxLen; omega
  case c4 => omega
  intro v' w1 hown' hgrow hnv
  have hown2 : w1.ownsRow w.heap.size 3 1 v' m (ivals ys) := by simpa using hown'
  obtain ⟨G, cc, rfl, hG1, hG2⟩ := hown2.form (by omega)
  have hbw : Below w.heap.size w w1 := ((Below.refl _ _).alloc (Nat.le_refl _) _).grown hgrow (by simp) (fun k hk => by simp [Value.ownBlock] at hk; omega)
  have HST : Hid (ShT X b A n c xs B w.heap.size G m cc w (shuf xs m ys 0) m w1) := ⟨ys, 0, HS.out.later hbw, hown2, hbw.mono hBw, rfl, by omega⟩
  clear hown' hgrow hnv hown2 hbw HO HC HL HS
  go_wp2_with fail
  go_loopw [6] (fun i wr => ∃ (iv : Int) (k : Nat), i = .int .i64 iv ∧ (k : Int) = iv + 1 ∧ k ≤ m ∧ ShT X b A n c xs B w.heap.size G m cc w (shuf xs m ys 0) k wr) (fun i _ => (intOf i).toNat)
  case atStart => exact ⟨_, m, rfl, by omega, Nat.le_refl _, HST.out⟩
  case round =>
    obtain ⟨iv, k, rfl, hk, hkm, ys1, t, hs, hl, hb, hres, ht⟩ := hrel
    have HS := Lib.hid hs
    have HL := Lib.hid hl
    have HB := Lib.hid hb
    have HRES := Lib.hid hres
    clear hs hl hb hres HST
    by_cases hk2 : 2 ≤ k
    · obtain ⟨p, rfl⟩ : ∃ p : Nat, iv = (p : Int) := ⟨iv.toNat, by omega⟩
      have hv : (p : Int) + 1 = (k : Int) := by omega
      have hp : 0 < p := by omega
      have hkp : k = p + 1 := by omega
      have HKP := Lib.hid hkp
      have hjk := Pl.belowN_lt hx.out (show 0 < k by omega) t
      have htk := (Pl.belowN_taken hx.out (show 0 < k by omega) t).2
      have HU := Lib.hid (below64_any k (by omega) (by omega) HS.out (by omega))
      obtain ⟨j, hj⟩ : ∃ j, (Pl.belowN xs k t).1 = j := ⟨_, rfl⟩
      rw [hj] at hjk HU
      have hpm : p < m := by omega
      have hjm : j < m := by omega
      clear hk hkp
      go_wp2_with fail
      refine HU.out.mono ?_
      rintro e w3 ⟨rfl, h1, h2⟩
      have hl1 := HL.out.kept h2 (.inr (by simp [Value.ownBlock]; omega))
      have HB1 := Lib.hid (HB.out.grown h2 (Nat.le_trans hBw HB.out.size) (fun g hg => by injection hg with hg; omega))
      have H1 := Lib.hid h1
      obtain ⟨s1, s2⟩ := own_swap hl1 p j
      have HR : Hid (ShT X b A n c xs B w.heap.size G m cc w (shuf xs m ys 0) p _) :=
        ⟨_, _, H1.out.other s2 (HX.out _ (by omega)) (by omega), s1, HB1.out.grown s2 (Nat.le_trans hBw HB1.out.size) (fun g hg => by injection hg with hg; omega),
          by rw [← HRES.out, ← hj]; exact (shuf_step xs p k ys1 t (by omega) HKP.out).symm, by omega⟩
      have ca := own_cell hl1 hpm
      have cb := own_cell hl1 hjm
      have fa := hl1.frozenAt p
      have fb := hl1.frozenAt j
      have i1 : (0 : Int) ≤ (p : Int) := by omega
      have i2 : (p : Int) < (m : Int) := by omega
      have j1 : (0 : Int) ≤ (j : Int) := by omega
      have j2 : (j : Int) < (m : Int) := by omega
      clear h1 h2 hl1 s1 s2 hv
      by_cases hne : p = j
      · subst hne
        go_wp2_with fail
        go_region
        go_wp2
        go_roundw
        case rel => exact ⟨_, p, rfl, by omega, by omega, HR.out⟩
        case measure => simp [intOf]; omega
      · go_wp2_with fail
        go_region
        go_wp2
        go_roundw
        case rel => exact ⟨_, p, rfl, by omega, by omega, HR.out⟩
        case measure => simp [intOf]; omega
    · have hi : ¬ (0 : Int) < iv := by omega
      have hsm := shuf_small xs k ys1 t (by omega)
      have HE := Lib.hid (hsm.symm.trans HRES.out)
      clear hsm
      go_wp2
      go_ret
      rw [← HE.out]
      obtain ⟨A5, c5, e5, hi5⟩ := isl_of_own HL.out
      injection e5 with e5 _ e6
      subst e5 e6
      exact ⟨_, ⟨_, rfl⟩, hi5, HS.out, HB.out⟩

set_option maxHeartbeats 1000000 in
theorem shuffled_zero {X : Nat → Prop} {b : Nat} {A : Option Addr} {n c : Nat} {xs : List Nat} {w : World} (D : Option Addr) (d B : Nat) (hsrc : SrcT X b A n c xs w 0) (hBw : B ≤ w.heap.size) :
    Calls Try.prog 21 #[.pointer (some ⟨b, 0, none⟩), .slice D 0 d] w fun e w' => ∃ A' c', e = .returned (.slice A' 0 c') ∧ SrcT X b A n c xs w' 0 ∧ Below B w w' := by
  obtain ⟨i0, hi0, hz0, hz1, hz2⟩ := info_parts info_int
  have hb := (Below.refl w.heap.size w).alloc (Nat.le_refl _) (.cells #[] 3)
  have HS := Lib.hid (hsrc.later hb)
  have HB := Lib.hid hb
  clear hb
  cases D with
  | none =>
    clear hsrc
    go_enter Try.func21, Try.ntmps21
    go_wp2_with fail
    refine wp_loop_rounds 1 ?_
    rw [rounds_succ]
    go_wp2
    go_ret
    exact ⟨_, _, rfl, HS.out, HB.out.mono hBw⟩
  | some ad =>
    have HS0 := Lib.hid hsrc
    have hown := World.ownsRow_lit (base := w.heap.size) (e := 3) (size := 1) w #[] 0 (Nat.le_refl _) (by unfold maxLen; omega) (by simp)
    have HO := Lib.hid hown
    have hl0 : ([] : List Value).length = 0 * 1 := rfl
    have hc0 : ∀ j u, ([] : List Value)[j]? = some u → (w.alloc (.cells #[] 3)).cell? (ad.add j) = some u := by intro j u h; simp at h
    have hu0 : ∀ u ∈ ([] : List Value), u.oneCell' = true := by intro u h; simp at h
    clear hown hsrc
    go_enter Try.func21, Try.ntmps21
    go_wp2_with (at_builtin; refine wpList_append_own _ rfl _ _ 24 rfl w.heap.size 3 i0 (.int .i64 0) 1 8 Try.underlying24 hi0 hz0 hz1 hz2 rfl (by decide) _ _ _ rfl HO.out ad 0 d [] rfl hl0 hc0 hu0 ?c3 ?c4 (by simp) ?_)
    intro v' w1 hown' hgrow hnv
    have hown2 : w1.ownsRow w.heap.size 3 1 v' 0 (ivals []) := by simpa [ivals] using hown'
    obtain ⟨A2, c2, rfl, _⟩ := isl_of_own hown2
    have hbw : Below w.heap.size w w1 := HB.out.grown hgrow (by simp) (fun k hk => by simp [Value.ownBlock] at hk; omega)
    have HS1 := Lib.hid (HS0.out.later hbw)
    have HB1 := Lib.hid (hbw.mono hBw)
    clear hown' hgrow hnv hown2 hbw HS HS0 HB HO
    go_wp2_with fail
    refine wp_loop_rounds 1 ?_
    rw [rounds_succ]
    go_wp2
    go_ret
    exact ⟨_, _, rfl, HS1.out, HB1.out⟩

theorem shuffled_any {X : Nat → Prop} {b : Nat} {A : Option Addr} {n c : Nat} {xs : List Nat} {w : World} (D : Option Addr) (m d : Nat) (ys : List Int) (B : Nat) (hm : m ≤ 4096)
    (hsrc : SrcT X b A n c xs w 0) (hX : ∀ g, B ≤ g → X g) (hBb : B ≤ b) (hBw : B ≤ w.heap.size) (hs : ISl w D m ys) :
    Calls Try.prog 21 #[.pointer (some ⟨b, 0, none⟩), .slice D m d] w fun e w' => ∃ A' c', e = .returned (.slice A' m c') ∧
      ISl w' A' m (shuf xs m ys 0).1 ∧ SrcT X b A n c xs w' (shuf xs m ys 0).2 ∧ Below B w w' := by
  rcases Nat.eq_zero_or_pos m with h0 | h0
  · subst h0
    have hys : ys = [] := List.eq_nil_of_length_eq_zero hs.1
    subst hys
    rw [shuf_small xs 0 [] 0 (by omega)]
    exact (shuffled_zero D d B hsrc hBw).mono fun e w' ⟨A', c', he, h1, h2⟩ => ⟨A', c', he, ⟨rfl, fun h => absurd h (by omega)⟩, h1, h2⟩
  · obtain ⟨g, o, rfl, _⟩ := hs.2 h0
    exact shuffled_pos _ m d ys B hm h0 hsrc hX hBb hBw hs
end Go.Proofs.Ytdailbjipfbdfaa
