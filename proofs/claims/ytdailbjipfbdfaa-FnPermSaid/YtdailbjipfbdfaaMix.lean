/- Contracts: laws.alike, the reference's Numbers and (*Source).Shuffled. -/
import Derived.Test.YtdailbjipfbdfaaShufI
import Derived.Test.YtdailbjipfbdfaaNLaw
import Derived.Deep.AppendSrc
namespace Go.Proofs.Ytdailbjipfbdfaa
open Go.RowKit

theorem cell_one_new (w : World) (t : TypeId) (v : Value) : ∀ j u, [v][j]? = some u → (w.alloc (.cells #[v] t)).cell? ((⟨w.heap.size, 0, none⟩ : Addr).add j) = some u := by
  intro j u hu
  rcases j with _ | j
  · simp at hu
    subst hu
    have h := (Whole.new w t #[v]).cell 0
    have e : (⟨w.heap.size, 0, none⟩ : Addr).add 0 = ⟨w.heap.size, 0, none⟩ := by unfold Addr.add; split <;> simp_all
    rw [e, h]
    rfl
  · simp at hu

set_option maxHeartbeats 1000000 in
theorem alike_any (A B : Option Addr) (n c d : Nat) (ys : List Int) (w : World) (hn : n ≤ 9223372036854775807) (ha : ISl w A n ys) (hb : ISl w B n ys) :
    Calls Try.prog 22 #[.slice A n c, .slice B n d] w fun e w' => e = .returned (.bool true) ∧ ∃ q, w' = w.drewN q := by
  by_cases h0 : n = 0
  · subst h0
    clear ha hb
    go_enter Try.func22, Try.ntmps22
    go_wp2_with fail
    refine wp_loop_rounds 1 ?_
    rw [rounds_succ]
    go_wp2
    go_ret
    exact ⟨rfl, 0, rfl⟩
  · obtain ⟨g, o, rfl, hca⟩ := ha.2 (by omega)
    obtain ⟨g', o', rfl, hcb⟩ := hb.2 (by omega)
    have HA := Lib.hid hca
    have HB := Lib.hid hcb
    clear ha hb hca hcb
    have e0 : ((n : Int) != (n : Int)) = false := by simp
    go_enter Try.func22, Try.ntmps22
    go_wp2_with fail
    go_loopw [5, 13] (fun _ i wr => ∃ k q : Nat, k ≤ n ∧ i = .int .i64 k ∧ wr = w.drewN q) (fun _ i _ => n - (intOf i).toNat)
    case atStart => exact ⟨0, 0, by omega, rfl, rfl⟩
    case round =>
      obtain ⟨k, q, hk, rfl, rfl⟩ := hrel
      by_cases hlt : k < n
      · have ca := HA.out k hlt
        have cb := HB.out k hlt
        have b1 : (0 : Int) ≤ (k : Int) := by omega
        have b2 : (k : Int) < (n : Int) := by omega
        have e1 : (ys[k]?.getD 0 != ys[k]?.getD 0) = false := by simp
        go_wp2_with fail
        go_quiet (fail)
        go_wp2
        go_roundw
        case rel => exact ⟨k + 1, _, by omega, by go_num, rfl⟩
        case measure => simp [intOf]; omega
      · obtain rfl : k = n := by omega
        go_wp2
        go_ret
        exact ⟨rfl, q, rfl⟩

theorem idl_zero : idl 0 = [] := rfl
theorem idl_succ (k : Nat) : idl (k + 1) = idl k ++ [(k : Int)] := by simp [idl, List.range_succ]

set_option maxHeartbeats 1000000 in
theorem numbers_any (m : Nat) (w : World) (hm : m ≤ 4096) :
    Calls Try.prog 23 #[.int .i64 m] w fun e w' => ∃ A c, e = .returned (.slice A m c) ∧ ISl w' A m (idl m) ∧ (A = none → m = 0) ∧ Below w.heap.size w w' := by
  obtain ⟨i0, hi0, hz0, hz1, hz2⟩ := info_parts info_int
  go_enter Try.func23, Try.ntmps23
  go_wp2_with fail
  go_loopw [3, 7] (fun v i wr => ∃ k : Nat, k ≤ m ∧ i = .int .i64 k ∧ wr.ownsRow w.heap.size 3 1 v k (ivals (idl k)) ∧ Below w.heap.size w wr) (fun _ i _ => m - (intOf i).toNat)
  case atStart =>
    refine ⟨0, by omega, rfl, ?_, (Below.refl _ _).alloc (Nat.le_refl _) _⟩
    have h := World.ownsRow_lit (base := w.heap.size) (e := 3) (size := 1) w #[] 0 (by simp) (by unfold maxLen; omega) (by simp)
    rw [idl_zero]
    simpa [ivals] using h
  case round =>
    obtain ⟨k, hk, rfl, hown, hb⟩ := hrel
    have HO := Lib.hid hown
    have HB := Lib.hid hb
    clear hown hb
    by_cases hlt : k < m
    · go_wp2_with (at_builtin; refine wpList_append_own _ rfl _ _ 24 rfl w.heap.size 3 i0 (.int .i64 0) 1 8 Try.underlying24 hi0 hz0 hz1 hz2 rfl (by decide) _ _ _ rfl (HO.out.alloc _) ⟨wr.heap.size, 0, none⟩ 1 1 [.int .i64 (k : Nat)] rfl rfl ?c1 ?c2 ?c3 ?c4 ?c5 ?_)
      case c1 => exact cell_one_new _ _ _
      case c2 => intro u hu; simp at hu; subst hu; rfl
      case c3 => unfold maxLen; omega
      case c4 => omega
      case c5 => have h2 := HB.out.size; simp; omega
      intro v' w3 hown' hgrow _
      have hz := HB.out.size
      have HO2 := Lib.hid (show w3.ownsRow w.heap.size 3 1 v' (k + 1) (ivals (idl (k + 1))) by rw [idl_succ]; simpa [ivals] using hown')
      have HB2 := Lib.hid ((HB.out.alloc hz _).grown hgrow (by simp; omega) (fun g hg => (HO.out.lt g hg).1))
      clear hown' hgrow
      go_wp2
      go_roundw
      case rel => exact ⟨k + 1, by omega, by go_num, HO2.out, HB2.out⟩
      case measure => simp [intOf]; omega
    · obtain rfl : k = m := by omega
      go_wp2
      go_ret
      obtain ⟨A, c, e, hs⟩ := isl_of_own HO.out
      refine ⟨A, c, by rw [← e]; rfl, hs, fun hA => ?_, HB.out⟩
      rcases Nat.eq_zero_or_pos k with h | h
      · exact h
      · obtain ⟨g, o, e, _⟩ := hs.2 h
        rw [hA] at e
        cases e
end Go.Proofs.Ytdailbjipfbdfaa
