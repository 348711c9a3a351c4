/- Walks: laws.FnSortedKept returns true. -/
import Derived.Test.YtdpomoengbpcaaaHelpG
namespace Go.Proofs.Ytdpomoengbpcaaa
open Go.RowKit Go.Sort Go.Lib

theorem by_sorted {N : Int} {zs : List Int} {P : Int → Prop} (hW : WeakK (sg N zs) P) (ks : List Int) (hks : ∀ k ∈ ks, P k) : (arrTo (sg N zs) ks ks.length).map (fun i => (ents ks).getD i.toNat (0, 0)) = sorted (ltT N zs) (ents ks) := by
  have hA := sorted_arranged hW ks hks
  unfold arrB at hA
  rw [Bool.and_eq_true, List.all_eq_true, arrTo_length, decide_eq_true_eq] at hA
  have hin := arrTo_in (sg N zs) ks ks.length (Nat.le_refl _)
  have hl := arrTo_length (sg N zs) ks ks.length
  refine List.ext_getElem (by rw [List.length_map, hA.1]; exact hl) fun p h1 h2 => ?_
  have hp : p < ks.length := by rw [List.length_map, hl] at h1; exact h1
  have ha := hA.2 p (List.mem_range.2 hp)
  unfold arrAt at ha
  rw [Bool.and_eq_true, decide_eq_true_eq, decide_eq_true_eq, getD_at _ _ p h2] at ha
  have hi := hin p hp
  rw [List.getElem_map]
  rw [getD_at _ _ p (by rw [hl]; exact hp)] at ha hi
  have he := ents_at ks ((arrTo (sg N zs) ks ks.length)[p]'(by rw [hl]; exact hp)).toNat (by omega)
  rw [List.getD_eq_getElem?_getD, he]
  show (_, _) = _
  exact Prod.ext ha.2.symm (by rw [ha.1]; show ((Int.toNat _ : Nat) : Int) = _; omega)

set_option maxHeartbeats 8000000 in
set_option maxRecDepth 100000 in
theorem FnSortedKept_walk (A B : Option Addr) (n c m d : Nat) (zs ks : List Int) (w : World) (hz : IntsR w A n zs) (hk : IntsR w B m ks) (hn : n ≤ maxLen) (hnc : n ≤ c) (hm : m ≤ maxLen) (hmd : m ≤ d) :
    Calls Try.prog 8 #[.slice A n c, .slice B m d] w fun e w' => e = .returned (.bool true) ∧ Below w.heap.size w w' := by
  obtain ⟨rs, hrs⟩ : ∃ rs, zs.take 300 = rs := ⟨_, rfl⟩
  obtain ⟨k, hkk⟩ : ∃ k, rankKeys rs.length ks = k := ⟨_, rfl⟩
  have HC := Lib.hid (ranked_tab A B n c m d zs ks w hz hk hn hnc hm hmd rs k hrs hkk)
  have hz3 : rs.length ≤ 300 := by rw [← hrs, List.length_take]; omega
  have hkin : ∀ x ∈ k, 0 ≤ x ∧ x < (rs.length : Int) := by rw [← hkk]; exact rankKeys_in rs.length ks
  have hW := rank_weak rs (by omega)
  have hw : Weak (ltT (rs.length : Int) (rankT rs)) (· ∈ ents k) := hW.weak (ents_keys hkin)
  have hself : ∀ i, i < k.length → 0 ≤ sg (rs.length : Int) (rankT rs) (k.getD i 0) (k.getD i 0) := fun i hi => by
    have hm : k.getD i 0 ∈ k := by rw [getD_at k 0 i hi]; exact List.getElem_mem hi
    have := hW.anti _ _ (hkin _ hm) (hkin _ hm); omega
  have hin := arrTo_in (sg (rs.length : Int) (rankT rs)) k k.length (Nat.le_refl _)
  have hby : (arrTo (sg (rs.length : Int) (rankT rs)) k k.length).map (fun i => (ents k).getD i.toNat (0, 0)) = sorted (ltT (rs.length : Int) (rankT rs)) (ents k) := by_sorted hW k hkin
  have htw : sorted (ltT (rs.length : Int) (rankT rs)) (sorted (ltT (rs.length : Int) (rankT rs)) (ents k)) = sorted (ltT (rs.length : Int) (rankT rs)) (ents k) := sortedA_twice hw (ents_nodup k)
  have hal := arrTo_length (sg (rs.length : Int) (rankT rs)) k k.length
  have HF := Lib.hid (And.intro hself (And.intro hin (And.intro hby htw)))
  have HAL := Lib.hid hal
  clear hz hk hn hnc hm hmd hrs hkk hkin hW hw hself hin hby htw hal
  go_enter Try.func8, Try.ntmps8
  go_wp2_with fail
  refine HC.out.mono ?_
  rintro e w1 ⟨b1, c1, L, b2, c2, M, rfl, hM, hM3, hT, hL, hK, hb1⟩
  have HM := Lib.hid hM
  have HT := Lib.hid (TabB.made (rs.length : Int) c1 hT hL)
  have HK := Lib.hid (hK.alloc (.cells #[.int .i64 (rs.length : Int), .slice (some ⟨b1, 0, none⟩) L c1] 28))
  have HB := Lib.hid (hb1.alloc hb1.size (.cells #[.int .i64 (rs.length : Int), .slice (some ⟨b1, 0, none⟩) L c1] 28))
  clear hM hT hL hK hb1 HC
  go_wp2_with fail
  generalize w1.alloc (.cells #[.int .i64 (rs.length : Int), .slice (some ⟨b1, 0, none⟩) L c1] 28) = w2 at HT HK HB ⊢
  generalize w1.heap.size = tb at HT ⊢
  obtain ⟨s1, x0, x1, _, _⟩ := HT.out
  go_region_held3 (fun w' => w'.cell? ⟨tb, 0, none⟩ = some (.int .i64 (rs.length : Int)) ∧ w'.cell? ⟨tb, 1, none⟩ = some (.slice (some ⟨b1, 0, none⟩) L c1)) (go_keep)
    (first
      | (go_at_call 12; refine (entries_tab _ M c2 k _ (by exact HK.out) (by omega)).mono ?_; rintro e w3 ⟨b3, c3, rfl, hit3, hl3, hc3, hb3⟩; have H3 := Lib.hid (And.intro hit3 (below_drew hb3)); have HT3 := Lib.hid (HT.out.below H3.out.2); obtain ⟨s3, k0, k1, _, _⟩ := HT3.out; clear hit3 hl3 hc3 hb3)
      | (go_at_call 18; refine (Arranged_any _ _ L c1 (rankT rs) _ M c2 k _ HT3.out.2.2.2.1 HT3.out.2.2.2.2 (HK.out.below H3.out.2) (by omega) (by rw [HM.out]; exact HF.out.1)).mono ?_; rintro e w4 ⟨b4, c4, rfl, hown4, hb4⟩; have H4 := Lib.hid (And.intro hown4 hb4); have HT4 := Lib.hid (HT3.out.below hb4); obtain ⟨s4, k2, k3, _, _⟩ := HT4.out; clear hown4 hb4)
      | (go_at_call 17; refine (by_any b3 M c3 (ents k) _ M c4 (arrTo (sg (rs.length : Int) (rankT rs)) k M) _ (H3.out.1.below H4.out.2) (by have := H4.out.1.ints; rw [arrTo_length, ← HM.out] at this; exact this) (by rw [HM.out]; exact HF.out.2.1) (by omega) (by omega)).mono ?_; rintro e w5 ⟨b5, c5, rfl, hit5, hb5⟩; have H5 := Lib.hid (And.intro hit5 hb5); have HT5 := Lib.hid (HT4.out.below hb5); obtain ⟨s5, k4, k5, _, _⟩ := HT5.out; clear hit5 hb5))
  have HS := Lib.hid (show ItemsR w5 b5 0 M (sorted (ltT (rs.length : Int) (rankT rs)) (ents k)) from by rw [← HF.out.2.2.1, ← HM.out]; exact H5.out.1)
  have HBB := Lib.hid (HB.out.trans (((H3.out.2.trans (H4.out.2.mono H3.out.2.size)).trans (H5.out.2.mono (Nat.le_trans H3.out.2.size H4.out.2.size))).mono HB.out.size))
  have HTW := Lib.hid HF.out.2.2.2
  generalize sorted (ltT (rs.length : Int) (rankT rs)) (ents k) = S at HS HTW
  clear H3 H4 H5 HT HT3 HT4 HF HAL HK HB k0 k1 k2 k3 s3 s4 s1 x0 x1
  go_wp2_with fail
  refine (roads_any _ _ L c1 (rankT rs) b5 0 M c5 S w5 HT5.out.2.2.2.1 HT5.out.2.2.2.2 HS.out (by omega)).mono ?_
  rintro e w6 ⟨r0, q0, r1, q1, r2, q2, rfl, hrd, hb6⟩
  rw [HTW.out] at hrd
  have H6 := Lib.hid (And.intro hrd (And.intro (HS.out.below hb6) (HBB.out.trans (hb6.mono HBB.out.size))))
  clear hrd hb6 k4 k5 s5 HT5
  go_wp2_with fail
  go_loopg [28] 3 (fun g vi wr => ∃ (i : Nat), vi = .int .i64 i ∧ i ≤ 3 ∧ 3 - i ≤ g ∧ Hid (Below w6.heap.size w6 wr))
  case atStart => exact ⟨0, rfl, by omega, by omega, Below.refl _ _⟩
  case round =>
    obtain ⟨i, rfl, hi3, hg, HR⟩ := hrel
    by_cases hlt : i < 3
    · have hltz : (i : Int) < 3 := by omega
      obtain ⟨b, cc, hp3, hpr⟩ := pick3_slice r0 q0 r1 q1 r2 q2 M i
      have HIT := Lib.hid (hpr wr S (H6.out.1.below HR.out))
      have HX := Lib.hid (H6.out.2.1.below HR.out)
      clear hpr
      go_wp2_with (refine wpList_index3 rfl (.tmp 27) (.tmp 28) rfl _ _ _ rfl i hlt rfl ?_; rw [hp3])
      refine (same_eq b 0 M cc b5 0 c5 S _ HIT.out HX.out (by omega)).mono ?_
      rintro e w7 ⟨rfl, qq, rfl⟩
      go_wp2_with fail
      go_roundg (3 - (i + 1))
      case measure => omega
      case rel => exact ⟨i + 1, by go_num, by omega, Nat.le_refl _, (show Hid _ from below_drewN HR.out _)⟩
    · have hltz : ¬ (i : Int) < 3 := by omega
      go_wp2_with fail
      go_ret
      exact ⟨rfl, H6.out.2.2.trans (HR.out.mono H6.out.2.2.size)⟩

theorem FnSortedKept_said {A B : Option Addr} {n c m d : Nat} {zs ks : List Int} (w : World) (hz : IntsR w A n zs) (hnc : n ≤ c) (hc : c ≤ maxLen) (hk : IntsR w B m ks) (hmd : m ≤ d) (hd : d ≤ maxLen) :
    Calls Try.prog 8 #[.slice A n c, .slice B m d] w fun e w' => e = .returned (.bool true) ∧ Below w.heap.size w w' :=
  FnSortedKept_walk A B n c m d zs ks w hz hk (Nat.le_trans hnc hc) hnc (Nat.le_trans hmd hd) hmd
end Go.Proofs.Ytdpomoengbpcaaa
