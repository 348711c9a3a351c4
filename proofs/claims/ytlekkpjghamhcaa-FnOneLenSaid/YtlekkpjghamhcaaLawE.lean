/- Walks: laws.FnOneLen returns true. -/
import Derived.Test.YtlekkpjghamhcaaTold
import Derived.Test.YtlekkpjghamhcaaHelpF
namespace Go.Proofs.Ytlekkpjghamhcaa
open Go.RowKit Go.Sort Go.Lib

set_option maxHeartbeats 2000000 in
set_option maxRecDepth 100000 in
theorem FnOneLen_said (w : World) (N : Int) (_wN : (Lit.int .i64 N).wf = true) {A B : Option Addr} {n c m d : Nat} {zs ks : List Int} (hz : IntsR w A n zs) (hnc : n ≤ c) (hc : c ≤ maxLen) (hk : IntsR w B m ks) (hmd : m ≤ d) (hd : d ≤ maxLen) :
    Calls Try.prog 9 #[.int .i64 N, .slice A n c, .slice B m d] w fun e w' => e = .returned (.bool true) ∧ Below w.heap.size w w' := by
  have hn : n ≤ maxLen := Nat.le_trans hnc hc
  have hm : m ≤ maxLen := Nat.le_trans hmd hd
  have hmm : m ≤ 9223372036854775807 := by unfold maxLen at hm; omega
  have HZ := Lib.hid hz
  have HK := Lib.hid hk
  have HN := Lib.hid hn
  clear hz hk hn hnc hc hmd hd hm
  by_cases hbig : 3000 < m
  · have hb : (3000 : Int) < (m : Int) := by omega
    go_enter Try.func9, Try.ntmps9
    go_wp2_with fail
    go_ret
    exact ⟨rfl, Below.refl _ _⟩
  · have hb : ¬ (3000 : Int) < (m : Int) := by omega
    go_enter Try.func9, Try.ntmps9
    go_wp2_with fail
    refine (entries_any B m d ks w HK.out (by omega)).mono ?_
    rintro e w3 ⟨b3, c3, rfl, hown3, hb3⟩
    have H3 := Lib.hid (And.intro (show ItemsR w3 b3 0 m (ents ks) from ⟨by rw [ents_length]; exact HK.out.1, hown3.items.2.1, by have := hown3.items.2.2; rw [ents_length, HK.out.1] at this; exact this⟩) hb3)
    clear hown3 hb3
    go_wp2_with fail
    refine (Stable_any N A n c zs b3 0 m c3 (ents ks) w3 (HZ.out.below H3.out.2) HN.out H3.out.1 (by omega)).mono ?_
    rintro e w4 ⟨b4, c4, g4, L4, d4, rfl, hit4, hcs4, hL4, hb4⟩
    have HB := Lib.hid (H3.out.2.trans (hb4.mono H3.out.2.size))
    have HCS := Lib.hid (show CallsR w4 g4 0 L4 (callsOf (ltT N zs) (ents ks)) from hcs4)
    have HAT := Lib.hid (fun k hk => call_at (ltT N zs) (ents ks) k hk)
    have HL := Lib.hid (show (callsOf (ltT N zs) (ents ks)).length = L4 from hcs4.1)
    have hL1 : 1 ≤ L4 := by rw [← HL.out]; simp [callsOf]
    have HM := Lib.hid (show (ents ks).length = m from by rw [ents_length]; exact HK.out.1)
    generalize callsOf (ltT N zs) (ents ks) = cs at HCS HAT HL
    clear hit4 hcs4 hb4 H3
    go_wp2_with fail
    go_loopg [9, 26] L4 (fun g vc vi wr => ∃ (k : Nat), vi = .int .i64 k ∧ k ≤ L4 ∧ L4 - k ≤ g ∧ vc = .int .i64 (if k = 0 then 0 else 1) ∧ Hid (Below w4.heap.size w4 wr))
    case atStart => exact ⟨0, rfl, by omega, by omega, rfl, Below.refl _ _⟩
    case round =>
      obtain ⟨k, rfl, hkL, hg, rfl, HBB⟩ := hrel
      by_cases hlt : k < L4
      · have hltz : (k : Int) < (L4 : Int) := by omega
        obtain ⟨x1, x2, x3, x4⟩ := (HCS.out.below HBB.out).at hlt
        have hg4 : g4 < wr.heap.size := (HCS.out.below HBB.out).2.1
        have hkz : 0 ≤ (k : Int) := by omega
        rcases HAT.out k (by rw [HL.out]; exact hlt) with ⟨h0, hC, _⟩ | ⟨h0, i, j, hi, hj, hC, _⟩ | ⟨h0, i, j, hi, hj, hC, _⟩
        · rw [hC] at x1 x2 x3 x4
          subst h0
          go_wp2_with fail
          go_roundg (L4 - (0 + 1))
          case measure => omega
          case rel =>
            exact ⟨0 + 1, by go_num, by omega, Nat.le_refl _, by simp, HBB.out.alloc HBB.out.size _⟩
        · rw [hC] at x1 x2 x3 x4
          rw [HM.out] at hi hj
          clear hC
          generalize ltT N zs _ _ = yes at x4
          rw [if_neg (by omega)]
          go_wp2_with fail
          go_roundg (L4 - (k + 1))
          case measure => omega
          case rel =>
            exact ⟨k + 1, by go_num, by omega, Nat.le_refl _, by simp, HBB.out.alloc HBB.out.size _⟩
        · rw [hC] at x1 x2 x3 x4
          rw [HM.out] at hi hj
          clear hC
          rw [if_neg (by omega)]
          go_wp2_with fail
          go_roundg (L4 - (k + 1))
          case measure => omega
          case rel =>
            exact ⟨k + 1, by go_num, by omega, Nat.le_refl _, by simp, HBB.out.alloc HBB.out.size _⟩
      · have hltz : ¬ (k : Int) < (L4 : Int) := by omega
        rw [if_neg (by omega)]
        go_wp2_with fail
        go_ret
        exact ⟨rfl, HB.out.trans (HBB.out.mono HB.out.size)⟩
end Go.Proofs.Ytlekkpjghamhcaa
