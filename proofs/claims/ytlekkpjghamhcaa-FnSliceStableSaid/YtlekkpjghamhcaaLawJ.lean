/- Walks: laws.FnSliceStable returns true. -/
import Derived.Test.YtlekkpjghamhcaaPlainA
import Derived.Test.YtlekkpjghamhcaaFncF
import Derived.Deep.RegionHeld3
namespace Go.Proofs.Ytlekkpjghamhcaa
open Go.RowKit Go.Sort Go.Lib

set_option maxHeartbeats 2000000 in
set_option maxRecDepth 100000 in
theorem FnSliceStable_walk (A B : Option Addr) (n c m d : Nat) (zs ks : List Int) (w : World) (hz : IntsR w A n zs) (hk : IntsR w B m ks) (hn : n ≤ maxLen) (hnc : n ≤ c) (hm : m ≤ maxLen) (hmd : m ≤ d) :
    Calls Try.prog 13 #[.slice A n c, .slice B m d] w fun e w' => e = .returned (.bool true) ∧ Below w.heap.size w w' := by
  have HC := Lib.hid (ranked_any A B n c m d zs ks w hz hk hn hnc hm hmd)
  clear hz hk hn hnc hm hmd
  have hz3 : (zs.take 300).length ≤ 300 := by rw [List.length_take]; omega
  generalize zs.take 300 = rs at HC hz3
  have hkin := rankKeys_in rs.length ks
  have hkle := rankKeys_le rs.length ks
  have hrl := rankT_length rs
  generalize rankKeys rs.length ks = k at HC hkin hkle
  have hW := rank_weak rs (by omega)
  have hfin := sorted_arranged hW k hkin
  have hself : ∀ i, i < k.length → 0 ≤ sg (rs.length : Int) (rankT rs) (k.getD i 0) (k.getD i 0) := fun i hi => by
    have hm : k.getD i 0 ∈ k := by rw [List.getD_eq_getElem?_getD, List.getElem?_eq_getElem hi]; exact List.getElem_mem hi
    have := hW.anti _ _ (hkin _ hm) (hkin _ hm); omega
  have hin := arrTo_in (sg (rs.length : Int) (rankT rs)) k k.length (Nat.le_refl _)
  have hLm : (rankT rs).length ≤ maxLen := by
    rw [hrl]; have := Nat.mul_le_mul hz3 hz3; unfold maxLen; omega
  have HF := Lib.hid (And.intro hfin (And.intro hself (And.intro hin hLm)))
  clear hkin hW hfin hself hin hrl hLm
  go_enter Try.func13, Try.ntmps13
  go_wp2_with fail
  refine HC.out.mono ?_
  rintro e w1 ⟨b1, c1, L, b2, c2, M, rfl, hL, hM, hownT, hownK, hb1⟩
  have HO := Lib.hid (And.intro hL (And.intro hM (And.intro hownT (And.intro hownK hb1))))
  clear hL hM hownT hownK hb1 HC
  go_wp2_with fail
  have x0 : (w1.alloc (.cells #[.int .i64 (rs.length : Int), .slice (some ⟨b1, 0, none⟩) L c1] 24)).cell? ⟨w1.heap.size, 0, none⟩ = some (.int .i64 (rs.length : Int)) := by simp
  have x1 : (w1.alloc (.cells #[.int .i64 (rs.length : Int), .slice (some ⟨b1, 0, none⟩) L c1] 24)).cell? ⟨w1.heap.size, 1, none⟩ = some (.slice (some ⟨b1, 0, none⟩) L c1) := by simp
  have s1 : w1.heap.size < (w1.alloc (.cells #[.int .i64 (rs.length : Int), .slice (some ⟨b1, 0, none⟩) L c1] 24)).heap.size := by simp
  have hI : IntsR (w1.alloc (.cells #[.int .i64 (rs.length : Int), .slice (some ⟨b1, 0, none⟩) L c1] 24)) (some ⟨b1, 0, none⟩) L (rankT rs) := by rw [HO.out.1]; exact HO.out.2.2.1.ints.alloc _
  have hK : IntsR (w1.alloc (.cells #[.int .i64 (rs.length : Int), .slice (some ⟨b1, 0, none⟩) L c1] 24)) (some ⟨b2, 0, none⟩) M k := by rw [HO.out.2.1]; exact HO.out.2.2.2.1.ints.alloc _
  have hB : Below w.heap.size w (w1.alloc (.cells #[.int .i64 (rs.length : Int), .slice (some ⟨b1, 0, none⟩) L c1] 24)) := HO.out.2.2.2.2.alloc HO.out.2.2.2.2.size _
  have hML := HO.out.2.1
  have hLL := HO.out.1
  generalize w1.alloc (.cells #[.int .i64 (rs.length : Int), .slice (some ⟨b1, 0, none⟩) L c1] 24) = w2 at x0 x1 s1 hI hK hB ⊢
  generalize w1.heap.size = tb at x0 x1 s1 ⊢
  have HI := Lib.hid hI
  have HK := Lib.hid hK
  have HB := Lib.hid hB
  have HM := Lib.hid (And.intro hML hLL)
  have hM3 : M ≤ 3000 := by omega
  clear hI hK hB hML hLL HO
  have tr := fun (W : World) (hs : tb < W.heap.size) (W' : World) (hb : Below W.heap.size W W') (y0 : W.cell? ⟨tb, 0, none⟩ = some (.int .i64 (rs.length : Int))) (y1 : W.cell? ⟨tb, 1, none⟩ = some (.slice (some ⟨b1, 0, none⟩) L c1)) =>
    show tb < W'.heap.size ∧ W'.cell? ⟨tb, 0, none⟩ = some (.int .i64 (rs.length : Int)) ∧ W'.cell? ⟨tb, 1, none⟩ = some (.slice (some ⟨b1, 0, none⟩) L c1) from
    ⟨Nat.lt_of_lt_of_le hs hb.size, (hb.cell (p := ⟨tb, 0, none⟩) hs).trans y0, (hb.cell (p := ⟨tb, 1, none⟩) hs).trans y1⟩
  have TR := Lib.hid tr
  clear tr
  go_region_held3 (fun w' => w'.cell? ⟨tb, 0, none⟩ = some (.int .i64 (rs.length : Int)) ∧ w'.cell? ⟨tb, 1, none⟩ = some (.slice (some ⟨b1, 0, none⟩) L c1)) (go_keep)
    (first
      | (go_at_call 18; refine (entries_any _ M c2 k _ (by exact HK.out) (by omega)).mono ?_; rintro e w3 ⟨b3, c3, rfl, hown3, hb3⟩; have H3 := Lib.hid (And.intro hown3 (show Below w2.heap.size w2 w3 from ⟨hb3.os, hb3.tape, hb3.output, hb3.size, hb3.block⟩)); obtain ⟨s3, k0, k1⟩ := TR.out w2 s1 w3 H3.out.2 x0 x1; clear hown3 hb3)
      | (go_at_call 24; refine (SliceStable_any _ _ L c1 (rankT rs) b3 0 M c3 (ents k) _ (HI.out.below H3.out.2) (by rw [HM.out.2]; exact HF.out.2.2.2) ⟨by rw [ents_length]; exact HM.out.1.symm, H3.out.1.items.2.1, by rw [HM.out.1, ← ents_length]; exact H3.out.1.items.2.2⟩ (by omega)).mono ?_; rintro e w4 ⟨b4, c4, rfl, hb4', hit4, hb4⟩; have H4 := Lib.hid (And.intro hit4 (show Below w2.heap.size w2 w4 from H3.out.2.trans (hb4.mono H3.out.2.size))); obtain ⟨s4, k2, k3⟩ := TR.out w2 s1 w4 H4.out.2 x0 x1; clear hb4' hit4 hb4)
      | (go_at_call 19; refine (Arranged_any _ _ L c1 (rankT rs) _ M c2 k _ (HI.out.below H4.out.2) (by rw [HM.out.2]; exact HF.out.2.2.2) (HK.out.below H4.out.2) (by omega) (by rw [HM.out.1]; exact HF.out.2.1)).mono ?_; rintro e w5 ⟨b5, c5, rfl, hown5, hb5⟩; have H5 := Lib.hid (And.intro hown5 (And.intro hb5 (show Below w2.heap.size w2 w5 from H4.out.2.trans (hb5.mono H4.out.2.size)))); obtain ⟨s5, k4, k5⟩ := TR.out w2 s1 w5 H5.out.2.2 x0 x1; clear hown5 hb5)
      | (go_at_call 16; refine (arranged_any b4 0 M c4 _ _ M c2 M c5 (sorted (ltT (rs.length : Int) (rankT rs)) (ents k)) k (arrTo (sg (rs.length : Int) (rankT rs)) k M) _ (H4.out.1.below H5.out.2.1) (HK.out.below H5.out.2.2) (by have := H5.out.1.ints; rw [arrTo_length, ← HM.out.1] at this; exact this) (by omega) (by omega) (by omega) (by rw [HM.out.1]; exact HF.out.2.2.1)).mono ?_; rintro e w6 ⟨rfl, q6, rfl⟩))
  go_wp2_with fail
  go_ret
  have hB := HB.out.trans (H5.out.2.2.mono HB.out.size)
  exact ⟨by rw [show arrB (sorted (ltT (rs.length : Int) (rankT rs)) (ents k)) k (arrTo (sg (rs.length : Int) (rankT rs)) k M) = true from by rw [HM.out.1]; exact HF.out.1]; rfl, ⟨hB.os, hB.tape, hB.output, hB.size, hB.block⟩⟩

theorem FnSliceStable_said {A B : Option Addr} {n c m d : Nat} {zs ks : List Int} (w : World) (hz : IntsR w A n zs) (hnc : n ≤ c) (hc : c ≤ maxLen) (hk : IntsR w B m ks) (hmd : m ≤ d) (hd : d ≤ maxLen) :
    Calls Try.prog 13 #[.slice A n c, .slice B m d] w fun e w' => e = .returned (.bool true) ∧ Below w.heap.size w w' :=
  FnSliceStable_walk A B n c m d zs ks w hz hk (Nat.le_trans hnc hc) hnc (Nat.le_trans hmd hd) hmd
end Go.Proofs.Ytlekkpjghamhcaa
