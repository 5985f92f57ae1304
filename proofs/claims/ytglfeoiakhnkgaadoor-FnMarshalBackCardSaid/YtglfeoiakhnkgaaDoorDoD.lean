/- The laws FnUnmarshal, FnMarshalBack as walks. -/
import Derived.Test.YtglfeoiakhnkgaaDoorDoC
namespace Go.Proofs.YtglfeoiakhnkgaaDoor
open Go.RowKit
attribute [local go_sem ↓] Go.wp_at_zero Go.wp_at_succ

theorem Sl.drop {w : World} {g o n a : Nat} {xs : List Nat} (h : Sl w (some ⟨g, o, none⟩) n xs) : Sl w (some ⟨g, o + a, none⟩) (n - a) (xs.drop a) := by
  refine ⟨by rw [List.length_drop, h.1], fun h0 => ?_⟩
  obtain ⟨g', o', e, hc⟩ := h.2 (by omega)
  injection e with e
  injection e with e1 e2
  subst e1 e2
  refine ⟨g, o + a, rfl, fun i hi => ?_⟩
  rw [Nat.add_assoc, hc (a + i) (by omega), List.getElem?_drop]

/-- The bytes of a state are a state, and that one. -/
theorem wr_bytes (s : Nat) : ∀ z ∈ Pl.wr s, 0 ≤ z ∧ z < 256 := by
  have hb : ∀ x, ∀ z ∈ Pl.be x, 0 ≤ z ∧ z < 256 := by
    intro x z hz
    simp only [Pl.be, Pl.beN, List.mem_map] at hz
    obtain ⟨i, _, rfl⟩ := hz
    have := Pl.byt_lt x (7 - i)
    omega
  intro z hz
  simp only [Pl.wr, List.mem_append, List.mem_cons, List.not_mem_nil, or_false] at hz
  rcases hz with (rfl | rfl | rfl | rfl) | h | h
  · omega
  · omega
  · omega
  · omega
  · exact hb _ z h
  · exact hb _ z h
theorem wr_head (s : Nat) : (strOfNums ((Pl.wr s).take 4)).toList = [112, 99, 103, 58] := by
  have e : (Pl.wr s).take 4 = [112, 99, 103, 58] := by simp [Pl.wr]
  rw [e]
  simp [strOfNums, go_sem]
theorem be_at (x i : Nat) (hi : i < 8) : (Pl.be x)[i]? = some ((Pl.byt x (7 - i) : Nat) : Int) := by
  simp [Pl.be, Pl.beN, hi]
theorem wr_read (s : Nat) (hs : s < 340282366920938463463374607431768211456) : rdS (Pl.wr s) = s := by
  have h1 : Pl.rdN (byf (Pl.wr s) 4) 8 = Pl.hiW s := by
    refine Pl.rdN_be _ (Pl.hiW_lt hs) _ fun i hi => ?_
    have e : (Pl.wr s)[4 + i]? = some ((Pl.byt (Pl.hiW s) (7 - i) : Nat) : Int) := by
      rw [Pl.wr, List.getElem?_append_right (by simp), List.getElem?_append_left (by rw [Pl.be_length]; simp; omega)]
      rw [show 4 + i - ([112, 99, 103, 58] : List Int).length = i by simp]
      exact be_at _ _ hi
    simp [byf, e]
  have h2 : Pl.rdN (byf (Pl.wr s) 12) 8 = Pl.loW s := by
    refine Pl.rdN_be _ (Pl.loW_lt s) _ fun i hi => ?_
    have e : (Pl.wr s)[12 + i]? = some ((Pl.byt (Pl.loW s) (7 - i) : Nat) : Int) := by
      rw [Pl.wr, List.getElem?_append_right (by simp; omega), List.getElem?_append_right (by rw [Pl.be_length]; simp; omega)]
      rw [show 12 + i - ([112, 99, 103, 58] : List Int).length - (Pl.be (Pl.hiW s)).length = i by rw [Pl.be_length]; simp; omega]
      exact be_at _ _ hi
    simp [byf, e]
  rw [rdS, h1, h2, Pl.st_hl]

set_option maxHeartbeats 1000000 in
theorem fnUnmarshal_good (hi lo c p m : Nat) (A : Option Addr) (ys : List Int) (w : World) (hc : 20 ≤ c) (hm : m ≤ 4096) (hv : (1 : Int) + (p : Int) % 100 = (m : Int))
    (hz : ∀ z ∈ ys, 0 ≤ z ∧ z < 256) (hg : (strOfNums (ys.take 4)).toList = [112, 99, 103, 58]) (hnil : A = none → 20 = 0) (hs : BSl w A 20 ys) :
    Calls Tryd.prog 3 #[.int .u64 hi, .int .u64 lo, .slice A 20 c, .int .u8 p] w fun e w' => e = .returned (.bool true) ∧ Below w.heap.size w w' := by
  obtain ⟨g, o, rfl, _⟩ := hs.2 (by omega)
  have e0 : ((m : Int) == (m : Int)) = true := by simp
  have HS := Lib.hid hs
  have HZ := Lib.hid hz
  have HG := Lib.hid hg
  have HU := Lib.hid (unmarshalI_good hi lo c m _ ys w hm hz hg hnil hs)
  clear hs hz hg hnil
  go_enter Tryd.func3, Tryd.ntmps3
  go_wp2_with fail
  refine HU.out.mono ?_
  rintro e w1 ⟨A1, c1, rfl, hc1, hs1, hb1⟩
  have HS1 := Lib.hid hs1
  have HB1 := Lib.hid hb1
  clear hs1 hb1 HU
  go_wp2_with fail
  refine (read_good g o c ys _ hc HZ.out HG.out (HS.out.later HB1.out)).mono ?_
  rintro e w2 ⟨rfl, hb2⟩
  have HB2 := Lib.hid hb2
  clear hb2
  go_wp2_with fail
  refine (specwords_any (rdS ys) m _ hm).mono ?_
  rintro e w3 ⟨A3, c3, rfl, hc3, hs3, hb3⟩
  have HS3 := Lib.hid hs3
  have HB3 := Lib.hid hb3
  clear hs3 hb3
  go_wp2_with fail
  refine (same_any A1 A3 m c1 c3 _ _ (by omega) ((HS1.out.later (HB2.out.alloc HB2.out.size _)).later HB3.out) HS3.out).mono ?_
  rintro e w4 ⟨rfl, q, rfl⟩
  go_wp2
  go_ret
  refine ⟨rfl, below_drewN ?_ q⟩
  have h2 : Below w.heap.size w w2 := HB1.out.trans (HB2.out.mono HB1.out.size)
  have h3 := h2.alloc h2.size (.cells #[.int .u64 (Pl.hiW (rdS ys) : Nat), .int .u64 (Pl.loW (rdS ys) : Nat)] 28)
  exact h3.trans (HB3.out.mono h3.size)

set_option maxHeartbeats 1000000 in
theorem fnUnmarshal_bad (hi lo n c p m : Nat) (A : Option Addr) (ys : List Int) (a : Addr) (w : World) (hc : n ≤ c) (hn : n ≤ 300) (hl : lo < 18446744073709551616) (hm : m ≤ 4096) (hv : (1 : Int) + (p : Int) % 100 = (m : Int))
    (hg : ¬ Good n ys) (hnil : A = none → n = 0) (hs : BSl w A n ys) (hE : w.cell? ⟨0, 0, none⟩ = some (.iface 64 (.pointer (some a)))) :
    Calls Tryd.prog 3 #[.int .u64 hi, .int .u64 lo, .slice A n c, .int .u8 p] w fun e w' => e = .returned (.bool true) ∧ Below w.heap.size w w' := by
  have t1 : decide ((2147483647 : Int) < (n : Int)) = false := by simp; omega
  have t2 : decide ((300 : Int) < (n : Int)) = false := by simp; omega
  have e0 : ((m : Int) == (m : Int)) = true := by simp
  have HS := Lib.hid hs
  have HG := Lib.hid hg
  have HU := Lib.hid (unmarshalI_bad hi lo n c m A ys a w hn hm hl hg hnil hs hE)
  have HN := Lib.hid hnil
  clear hs hg hnil hE
  go_enter Tryd.func3, Tryd.ntmps3
  go_wp2_with fail
  refine HU.out.mono ?_
  rintro e w1 ⟨A1, c1, rfl, hc1, hs1, hb1⟩
  have HB1 := Lib.hid hb1
  clear hs1 hb1 HU
  go_wp2_with fail
  refine (read_bad A n c ys _ hc HN.out HG.out (HS.out.later HB1.out)).mono ?_
  rintro e w2 ⟨rfl, hb2⟩
  have HB2 := Lib.hid hb2
  clear hb2
  go_wp2
  go_ret
  have h2 : Below w.heap.size w w2 := HB1.out.trans (HB2.out.mono HB1.out.size)
  exact ⟨rfl, h2.alloc h2.size _⟩

set_option maxHeartbeats 1000000 in
theorem fnUnmarshal_long (hi lo n c p : Nat) (A : Option Addr) (w : World) (hn : 300 < n) :
    Calls Tryd.prog 3 #[.int .u64 hi, .int .u64 lo, .slice A n c, .int .u8 p] w fun e w' => e = .returned (.bool true) ∧ Below w.heap.size w w' := by
  by_cases h : 2147483647 < n
  · have t1 : decide ((2147483647 : Int) < (n : Int)) = true := by simp; omega
    go_enter Tryd.func3, Tryd.ntmps3
    go_wp2
    go_ret
    exact ⟨rfl, Below.refl _ _⟩
  · have t1 : decide ((2147483647 : Int) < (n : Int)) = false := by simp; omega
    have t2 : decide ((300 : Int) < (n : Int)) = true := by simp; omega
    go_enter Tryd.func3, Tryd.ntmps3
    go_wp2
    go_ret
    exact ⟨rfl, Below.refl _ _⟩

theorem fnUnmarshal_true (hi : Nat) (_hh : hi < 18446744073709551616) (lo : Nat) (hl : lo < 18446744073709551616) (A : Option Addr) (n c : Nat) (zs : List Int) {w : World} (s : Arr .u8 w A n c zs) (p : Nat) (_hp : p < 256)
    (a : Addr) (hE : w.cell? ⟨0, 0, none⟩ = some (.iface 64 (.pointer (some a)))) :
    Calls Tryd.prog 3 #[.int .u64 hi, .int .u64 lo, .slice A n c, .int .u8 p] w fun e w' => e = .returned (.bool true) ∧ Below w.heap.size w w' := by
  have hc : n ≤ c := s.2.1
  obtain ⟨h1, h2, h3⟩ := bsl_of_arr s
  by_cases h : n ≤ 300
  · by_cases hg : Good n zs
    · obtain ⟨rfl, hg⟩ := hg
      exact fnUnmarshal_good hi lo c p (1 + p % 100) A zs w hc (by omega) (by omega) h3 hg h2 h1
    · exact fnUnmarshal_bad hi lo n c p (1 + p % 100) A zs a w hc h hl (by omega) (by omega) hg h2 h1 hE
  · exact fnUnmarshal_long hi lo n c p A w (by omega)

set_option maxHeartbeats 1000000 in
theorem fnMarshalBack_go (hi lo k ohi olo p m t : Nat) (w : World) (hh : hi < 18446744073709551616) (hl : lo < 18446744073709551616) (hk : k < 256) (hm1 : 1 ≤ m) (hm : m ≤ 100) (ht : t - k = m) (_hkt : k < t) (ht2 : t ≤ 4096)
    (hv : (1 : Int) + (p : Int) % 100 = (m : Int)) (vt : (k : Int) + (m : Int) = (t : Int)) :
    Calls Tryd.prog 4 #[.int .u64 hi, .int .u64 lo, .int .u8 k, .int .u64 ohi, .int .u64 olo, .int .u8 p] w fun e w' => e = .returned (.bool true) ∧ Below w.heap.size w w' := by
  have e0 : ((t : Int) == (t : Int)) = true := by simp
  have hsl : Pl.steps k (Pl.st hi lo) < 340282366920938463463374607431768211456 := Pl.steps_lt k (Pl.st_lt hh hl)
  have HMT := Lib.hid ht
  clear ht
  go_enter Tryd.func4, Tryd.ntmps4
  go_wp2_with fail
  refine (marshal_any hi lo k _ (by omega) hh hl).mono ?_
  rintro e w1 ⟨A1, c1, rfl, hn1, hs1, hb1⟩
  have hu := unmarshalI_good ohi olo c1 m A1 (Pl.wr (Pl.steps k (Pl.st hi lo))) w1 (by omega) (wr_bytes _) (wr_head _) hn1 hs1
  rw [wr_read _ hsl] at hu
  have HU := Lib.hid hu
  have HB1 := Lib.hid hb1
  clear hn1 hs1 hb1 hu
  go_wp2_with fail
  refine HU.out.mono ?_
  rintro e w2 ⟨A2, c2, rfl, hc2, hs2, hb2⟩
  have HS2 := Lib.hid hs2
  have HB2 := Lib.hid (below_trans HB1.out (hb2.mono HB1.out.size))
  clear hs2 hb2 HU HB1
  go_wp2_with fail
  refine (words_any hi lo t _ ht2 hl).mono ?_
  rintro e w3 ⟨A3, c3, rfl, hc3, hs3, hb3⟩
  obtain ⟨g, o, rfl, _⟩ := hs3.2 (by omega)
  have hs4 := hs3.drop (a := k)
  rw [HMT.out, show t = k + m by have := HMT.out; omega, tws_drop] at hs4
  have HS4 := Lib.hid hs4
  have HS2' := Lib.hid (HS2.out.later hb3)
  have HB3 := Lib.hid (below_trans HB2.out (hb3.mono HB2.out.size))
  clear hs3 hs4 hb3 HS2 HB2
  have b1 : (0 : Int) ≤ (k : Int) := by omega
  have b2 : (k : Int) ≤ (t : Int) := by omega
  have b3 : ¬ c3 = k := by omega
  go_wp2_with fail
  rw [HMT.out]
  refine (same_any A2 _ m c2 _ _ _ (by omega) HS2'.out HS4.out).mono ?_
  rintro e w4 ⟨rfl, q, rfl⟩
  go_wp2
  go_ret
  exact ⟨rfl, below_drewN HB3.out q⟩
theorem fnMarshalBack_true (hi : Nat) (hh : hi < 18446744073709551616) (lo : Nat) (hl : lo < 18446744073709551616) (k : Nat) (hk : k < 256) (ohi : Nat) (_h1 : ohi < 18446744073709551616) (olo : Nat) (_h2 : olo < 18446744073709551616) (p : Nat) (_hp : p < 256) (w : World) :
    Calls Tryd.prog 4 #[.int .u64 hi, .int .u64 lo, .int .u8 k, .int .u64 ohi, .int .u64 olo, .int .u8 p] w fun e w' => e = .returned (.bool true) ∧ Below w.heap.size w w' :=
  fnMarshalBack_go hi lo k ohi olo p (1 + p % 100) (k + (1 + p % 100)) w hh hl hk (by omega) (by omega) (by omega) (by omega) (by omega) (by omega) (by omega)
end Go.Proofs.YtglfeoiakhnkgaaDoor
