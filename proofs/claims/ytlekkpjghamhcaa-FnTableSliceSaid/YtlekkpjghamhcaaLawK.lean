/- Walks: laws.FnTableSlice returns true. -/
import Derived.Test.YtlekkpjghamhcaaHelpF
import Derived.Test.YtlekkpjghamhcaaFncF
import Derived.Deep.RegionHeld3
namespace Go.Proofs.Ytlekkpjghamhcaa
open Go.RowKit Go.Sort Go.Lib

set_option maxHeartbeats 2000000 in
set_option maxRecDepth 100000 in
theorem FnTableSlice_said (w : World) (N : Int) (_wN : (Lit.int .i64 N).wf = true) {A B : Option Addr} {n c m d : Nat} {zs ks : List Int} (hz : IntsR w A n zs) (hnc : n ≤ c) (hc : c ≤ maxLen) (hk : IntsR w B m ks) (hmd : m ≤ d) (hd : d ≤ maxLen) :
    Calls Try.prog 14 #[.int .i64 N, .slice A n c, .slice B m d] w fun e w' => e = .returned (.bool true) ∧ Below w.heap.size w w' := by
  have hn : n ≤ maxLen := Nat.le_trans hnc hc
  have HC := Lib.hid (fits_any N A n c zs B m d ks w hz hn hk (Nat.le_trans hmd hd))
  have HZ := Lib.hid hz
  have HK := Lib.hid hk
  have HN := Lib.hid hn
  clear hz hk hn hnc hc hmd hd
  go_enter Try.func14, Try.ntmps14
  go_wp2_with fail
  refine HC.out.mono ?_
  rintro e w' ⟨r, rfl, hr, rfl⟩
  cases r with
  | false =>
    clear hr
    go_wp2_with fail
    go_ret
    exact ⟨rfl, Below.refl _ _⟩
  | true =>
    obtain ⟨f1, _, _, f4, f5⟩ := hr rfl
    have hfin := sorted_arranged f5 ks f4
    have hself : ∀ i, i < ks.length → 0 ≤ sg N zs (ks.getD i 0) (ks.getD i 0) := fun i hi => by
      have hm : ks.getD i 0 ∈ ks := by rw [List.getD_eq_getElem?_getD, List.getElem?_eq_getElem hi]; exact List.getElem_mem hi
      have := f5.anti _ _ (f4 _ hm) (f4 _ hm); omega
    have hin := arrTo_in (sg N zs) ks ks.length (Nat.le_refl _)
    have hm3 : m ≤ 3000 := by have := HK.out.1; omega
    rw [HK.out.1] at hfin hself hin
    have HF := Lib.hid (And.intro hfin (And.intro hself hin))
    clear hr f1 f4 f5 hfin hself hin HC
    go_wp2_with fail
    refine (entries_any B m d ks w HK.out (by omega)).mono ?_
    rintro e w3 ⟨b3, c3, rfl, hown3, hb3⟩
    have H3 := Lib.hid (And.intro (show ItemsR w3 b3 0 m (ents ks) from ⟨by rw [ents_length]; exact HK.out.1, hown3.items.2.1, by have := hown3.items.2.2; rw [ents_length, HK.out.1] at this; exact this⟩) hb3)
    clear hown3 hb3
    go_wp2_with fail
    refine (SliceStable_any N A n c zs b3 0 m c3 (ents ks) w3 (HZ.out.below H3.out.2) HN.out H3.out.1 (by omega)).mono ?_
    rintro e w4 ⟨b4, c4, rfl, hb4', hit4, hb4⟩
    have H4 := Lib.hid (And.intro hit4 (H3.out.2.trans (hb4.mono H3.out.2.size)))
    clear hb4' hit4 hb4
    go_wp2_with fail
    refine (Arranged_any N A n c zs B m d ks w4 (HZ.out.below H4.out.2) HN.out (HK.out.below H4.out.2) (by omega) HF.out.2.1).mono ?_
    rintro e w5 ⟨b5, c5, rfl, hown5, hb5⟩
    have H5 := Lib.hid (And.intro hown5 (And.intro hb5 (H4.out.2.trans (hb5.mono H4.out.2.size))))
    clear hown5 hb5
    go_wp2_with fail
    refine (arranged_any b4 0 m c4 B _ m d m c5 (sorted (ltT N zs) (ents ks)) ks (arrTo (sg N zs) ks m) w5 (H4.out.1.below H5.out.2.1) (HK.out.below H5.out.2.2) (by have := H5.out.1.ints; rw [arrTo_length, HK.out.1] at this; exact this) (by omega) (by omega) (by omega) HF.out.2.2).mono ?_
    rintro e w6 ⟨rfl, q6, rfl⟩
    have HT := Lib.hid HF.out.1
    generalize arrB (sorted (ltT N zs) (ents ks)) ks (arrTo (sg N zs) ks m) = t at HT
    go_wp2_with fail
    go_ret
    have hB := H5.out.2.2
    exact ⟨by rw [HT.out]; rfl, ⟨hB.os, hB.tape, hB.output, hB.size, hB.block⟩⟩
end Go.Proofs.Ytlekkpjghamhcaa
