/- Walks: laws.FnRoadsAgree returns true. -/
import Derived.Test.YtdpomoengbpcaaaRoads
namespace Go.Proofs.Ytdpomoengbpcaaa
open Go.RowKit Go.Sort Go.Lib

set_option maxHeartbeats 4000000 in
set_option maxRecDepth 100000 in
theorem FnRoadsAgree_said (w : World) (N : Int) (_wN : (Lit.int .i64 N).wf = true) {A B : Option Addr} {n c m d : Nat} {zs ks : List Int} (hz : IntsR w A n zs) (hnc : n ≤ c) (hc : c ≤ maxLen) (hk : IntsR w B m ks) (hmd : m ≤ d) (hd : d ≤ maxLen) :
    Calls Try.prog 6 #[.int .i64 N, .slice A n c, .slice B m d] w fun e w' => e = .returned (.bool true) ∧ Below w.heap.size w w' := by
  have hn : n ≤ maxLen := Nat.le_trans hnc hc
  have HC := Lib.hid (fits_any N A n c zs B m d ks w hz hn hk (Nat.le_trans hmd hd))
  have HZ := Lib.hid hz
  have HK := Lib.hid hk
  have HN := Lib.hid hn
  clear hz hk hn hnc hc hmd hd
  go_enter Try.func6, Try.ntmps6
  go_wp2_with fail
  refine HC.out.mono ?_
  rintro e w' ⟨r, rfl, hr, rfl⟩
  cases r with
  | false =>
    clear hr
    go_wp2_with fail
    go_ret
    exact ⟨rfl, Below.refl _ _⟩
  | true =>
    obtain ⟨f1, _, _, f4, f5⟩ := hr rfl
    have hm3 : m ≤ 3000 := by have := HK.out.1; omega
    clear hr f1 f4 f5 HC
    go_wp2_with fail
    refine (entries_any B m d ks w HK.out (by omega)).mono ?_
    rintro e w3 ⟨b3, c3, rfl, hown3, hb3⟩
    have H3 := Lib.hid (And.intro (show ItemsR w3 b3 0 m (ents ks) from ⟨by rw [ents_length]; exact HK.out.1, hown3.items.2.1, by have := hown3.items.2.2; rw [ents_length, HK.out.1] at this; exact this⟩) hb3)
    clear hown3 hb3
    go_wp2_with fail
    refine (roads_any N A n c zs b3 0 m c3 (ents ks) w3 (HZ.out.below H3.out.2) HN.out H3.out.1 (by omega)).mono ?_
    rintro e w4 ⟨r0, q0, r1, q1, r2, q2, rfl, hrd, hb4⟩
    have HB := Lib.hid (H3.out.2.trans (hb4.mono H3.out.2.size))
    have HS := Lib.hid hrd
    generalize sorted (ltT N zs) (ents ks) = S at HS
    clear H3 hrd hb4 HK
    go_wp2_with fail
    refine (same_eq r0 0 m q0 r1 0 q1 S _ (HS.out.1.alloc _) (HS.out.2.1.alloc _) (by omega)).mono ?_
    rintro e w5 ⟨rfl, q5, rfl⟩
    have t0 : ∀ q, ((w4.alloc (.cells #[.slice (some ⟨r0, 0, none⟩) m q0, .slice (some ⟨r1, 0, none⟩) m q1, .slice (some ⟨r2, 0, none⟩) m q2] 25)).drewN q).cell? ⟨w4.heap.size, 0, none⟩ = some (.slice (some ⟨r0, 0, none⟩) m q0) := fun q => show (w4.alloc (.cells #[.slice (some ⟨r0, 0, none⟩) m q0, .slice (some ⟨r1, 0, none⟩) m q1, .slice (some ⟨r2, 0, none⟩) m q2] 25)).cell? ⟨w4.heap.size, 0, none⟩ = _ by simp
    have t2 : ∀ q, ((w4.alloc (.cells #[.slice (some ⟨r0, 0, none⟩) m q0, .slice (some ⟨r1, 0, none⟩) m q1, .slice (some ⟨r2, 0, none⟩) m q2] 25)).drewN q).cell? ⟨w4.heap.size, 2, none⟩ = some (.slice (some ⟨r2, 0, none⟩) m q2) := fun q => show (w4.alloc (.cells #[.slice (some ⟨r0, 0, none⟩) m q0, .slice (some ⟨r1, 0, none⟩) m q1, .slice (some ⟨r2, 0, none⟩) m q2] 25)).cell? ⟨w4.heap.size, 2, none⟩ = _ by simp
    have HA := Lib.hid (HS.out.below ((Below.refl _ _).alloc (Nat.le_refl _) (.cells #[.slice (some ⟨r0, 0, none⟩) m q0, .slice (some ⟨r1, 0, none⟩) m q1, .slice (some ⟨r2, 0, none⟩) m q2] 25)))
    have HBA := Lib.hid (HB.out.alloc HB.out.size (.cells #[.slice (some ⟨r0, 0, none⟩) m q0, .slice (some ⟨r1, 0, none⟩) m q1, .slice (some ⟨r2, 0, none⟩) m q2] 25))
    generalize w4.alloc (.cells #[.slice (some ⟨r0, 0, none⟩) m q0, .slice (some ⟨r1, 0, none⟩) m q1, .slice (some ⟨r2, 0, none⟩) m q2] 25) = w5 at t0 t2 HA HBA ⊢
    go_wp2_with fail
    refine (same_eq r0 0 m q0 r2 0 q2 S _ (by exact HA.out.1) (by exact HA.out.2.2) (by omega)).mono ?_
    rintro e w6 ⟨rfl, q6, rfl⟩
    go_wp2_with fail
    go_ret
    exact ⟨rfl, ⟨HBA.out.os, HBA.out.tape, HBA.out.output, HBA.out.size, HBA.out.block⟩⟩
end Go.Proofs.Ytdpomoengbpcaaa
