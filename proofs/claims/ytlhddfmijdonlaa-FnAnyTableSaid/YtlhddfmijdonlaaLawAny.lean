/- Walks: laws.FnAnyTable returns true. -/
import Derived.Test.YtlhddfmijdonlaaHelpG
import Derived.Test.YtlhddfmijdonlaaHelpH
namespace Go.Proofs.Ytlhddfmijdonlaa
open Go.RowKit Go.Sort Go.Lib

/-- The tags of the sorted list: each index once; and the entries are those of the keys. -/
theorem tags_sorted (lt : It → It → Bool) (ks : List Int) : ((sorted lt (ents ks)).map Prod.snd).Nodup ∧ (∀ i, i < ks.length → 0 ≤ ((sorted lt (ents ks)).map Prod.snd).getD i 0 ∧ ((sorted lt (ents ks)).map Prod.snd).getD i 0 < (ks.length : Int)) ∧ arrB (sorted lt (ents ks)) ks ((sorted lt (ents ks)).map Prod.snd) = true := by
  have hp : (sorted lt (ents ks)).Perm (ents ks) := sortedA_perm lt (ents ks)
  have hl : (sorted lt (ents ks)).length = ks.length := by rw [sorted_length, ents_length]
  have hmem : ∀ x ∈ sorted lt (ents ks), ∃ i : Nat, i < ks.length ∧ x = (ks.getD i 0, (i : Int)) := fun x hx => ents_mem (hp.mem_iff.1 hx)
  have hat : ∀ (i : Nat) (h : i < ks.length), ∃ j : Nat, j < ks.length ∧ (sorted lt (ents ks))[i]'(by omega) = (ks.getD j 0, (j : Int)) := fun i h => hmem _ (List.getElem_mem _)
  refine ⟨?_, fun i hi => ?_, ?_⟩
  · have hn : ((ents ks).map Prod.snd).Nodup := by
      have : (ents ks).map Prod.snd = (List.range ks.length).map (fun i : Nat => (i : Int)) := by
        refine List.ext_getElem (by simp [ents_length]) fun i h1 h2 => ?_
        rw [List.getElem_map, List.getElem_map, List.getElem_range]
        have hi : i < ks.length := by simpa using h2
        have := ents_at ks i hi
        rw [List.getElem?_eq_getElem (by rw [ents_length]; exact hi)] at this
        injection this with this
        rw [this]
      rw [this]
      exact List.pairwise_map.2 (List.Pairwise.imp (fun {a b} h e => h (by omega)) List.nodup_range)
    exact (hp.map Prod.snd).nodup_iff.2 hn
  · rw [getD_at _ 0 i (by rw [List.length_map]; omega), List.getElem_map]
    obtain ⟨j, hj, he⟩ := hat i hi
    rw [he]
    exact ⟨by show (0 : Int) ≤ (j : Int); omega, by show (j : Int) < _; omega⟩
  · unfold arrB
    rw [Bool.and_eq_true, List.all_eq_true, decide_eq_true_eq, List.length_map]
    refine ⟨rfl, fun i hi => ?_⟩
    have hi' : i < ks.length := by have := List.mem_range.1 hi; omega
    obtain ⟨j, hj, he⟩ := hat i hi'
    unfold arrAt
    rw [getD_at _ _ i (by omega), getD_at _ 0 i (by rw [List.length_map]; omega), List.getElem_map, he, Bool.and_eq_true, decide_eq_true_eq, decide_eq_true_eq]
    exact ⟨rfl, by show ks.getD j 0 = ks.getD ((j : Int).toNat) 0; rw [Int.toNat_natCast]⟩

set_option maxHeartbeats 4000000 in
set_option maxRecDepth 100000 in
theorem FnAnyTable_said (w : World) (N : Int) (_wN : (Lit.int .i64 N).wf = true) {A B : Option Addr} {n c m d : Nat} {zs ks : List Int} (hz : IntsR w A n zs) (hnc : n ≤ c) (hc : c ≤ maxLen) (hk : IntsR w B m ks) (_hmd : m ≤ d) (_hd : d ≤ maxLen) :
    Calls Try.prog 6 #[.int .i64 N, .slice A n c, .slice B m d] w fun e w' => e = .returned (.bool true) ∧ Below w.heap.size w w' := by
  have hn : n ≤ maxLen := Nat.le_trans hnc hc
  by_cases h1 : 3000 < m
  · have h1z : (3000 : Int) < (m : Int) := by omega
    go_enter Try.func6, Try.ntmps6
    go_wp2_with fail
    go_ret
    exact ⟨rfl, Below.refl _ _⟩
  · have h1z : ¬ (3000 : Int) < (m : Int) := by omega
    have hm3 : m ≤ 3000 := by omega
    obtain ⟨t1, t2, t3⟩ := tags_sorted (ltT N zs) ks
    rw [hk.1] at t2
    have HF := Lib.hid (And.intro t1 (And.intro t2 t3))
    have HT := Lib.hid (TabB.made N c hz hn)
    have HK := Lib.hid (hk.alloc (.cells #[.int .i64 N, .slice A n c] 24))
    have HB := Lib.hid (below_a w (.cells #[.int .i64 N, .slice A n c] 24))
    clear hz hk hn hnc hc h1 t1 t2 t3
    go_enter Try.func6, Try.ntmps6
    go_wp2_with fail
    generalize w.alloc (.cells #[.int .i64 N, .slice A n c] 24) = w2 at HT HK HB ⊢
    generalize htb : w.heap.size = tb at HT ⊢
    clear htb
    obtain ⟨_, x0, x1, _, _⟩ := HT.out
    go_region_held3 (fun w' => w'.cell? ⟨tb, 0, none⟩ = some (.int .i64 N) ∧ w'.cell? ⟨tb, 1, none⟩ = some (.slice A n c)) (go_keep)
      (first
        | (go_at_call 13; refine (entries_tab _ m d ks _ (by exact HK.out) (by omega)).mono ?_; rintro e w3 ⟨b3, c3, rfl, hit3, hl3, hc3, hb3⟩; have H3 := Lib.hid (And.intro hit3 (below_drew hb3)); have HT3 := Lib.hid (HT.out.below H3.out.2); obtain ⟨_, k0, k1, _, _⟩ := HT3.out; clear hit3 hl3 hc3 hb3)
        | (go_at_call 17; refine (StableFunc_any N A n c zs b3 0 m c3 (ents ks) _ HT3.out.2.2.2.1 HT3.out.2.2.2.2 H3.out.1 (by omega)).mono ?_; rintro e w4 ⟨b4, c4, rfl, hl4, hit4, hb4⟩; have H4 := Lib.hid (And.intro hit4 (H3.out.2.trans (hb4.mono H3.out.2.size))); have HT4 := Lib.hid (HT.out.below H4.out.2); obtain ⟨_, k2, k3, _, _⟩ := HT4.out; clear hit4 hl4 hb4))
    have HK4 := Lib.hid (HK.out.below H4.out.2)
    have HB4 := Lib.hid (HB.out.trans (H4.out.2.mono HB.out.size))
    have HA := Lib.hid H4.out.1
    clear H3 H4 HT HT3 HK HB x0 x1 k0 k1
    go_wp2_with fail
    go_region_held3 (fun w' => w'.cell? ⟨tb, 0, none⟩ = some (.int .i64 N) ∧ w'.cell? ⟨tb, 1, none⟩ = some (.slice A n c)) (go_keep)
      (first
        | (go_at_call 13; refine (entries_tab _ m d ks _ (by exact HK4.out) (by omega)).mono ?_; rintro e w5 ⟨b5, c5, rfl, hit5, hl5, hc5, hb5⟩; have H5 := Lib.hid (And.intro hit5 (below_drew hb5)); have HT5 := Lib.hid (HT4.out.below H5.out.2); obtain ⟨_, k0, k1, _, _⟩ := HT5.out; clear hit5 hl5 hc5 hb5)
        | (go_at_call 18; refine (SliceStable_any N A n c zs b5 0 m c5 (ents ks) _ HT5.out.2.2.2.1 HT5.out.2.2.2.2 H5.out.1 (by omega)).mono ?_; rintro e w6 ⟨b6, c6, rfl, hl6, hit6, hb6⟩; have H6 := Lib.hid (And.intro hit6 (H5.out.2.trans (hb6.mono H5.out.2.size))); have HT6 := Lib.hid (HT4.out.below H6.out.2); obtain ⟨_, k4, k5, _, _⟩ := HT6.out; clear hit6 hl6 hb6))
    have HK6 := Lib.hid (HK4.out.below H6.out.2)
    have HB6 := Lib.hid (HB4.out.trans (H6.out.2.mono HB4.out.size))
    have HA6 := Lib.hid (HA.out.below H6.out.2)
    have HS := Lib.hid H6.out.1
    clear H5 H6 HT4 HT5 HK4 HB4 HA k0 k1 k2 k3
    go_wp2_with fail
    go_region_held3 (fun w' => w'.cell? ⟨tb, 0, none⟩ = some (.int .i64 N) ∧ w'.cell? ⟨tb, 1, none⟩ = some (.slice A n c)) (go_keep)
      (first
        | (go_at_call 13; refine (entries_tab _ m d ks _ (by exact HK6.out) (by omega)).mono ?_; rintro e w7 ⟨b7, c7, rfl, hit7, hl7, hc7, hb7⟩; have H7 := Lib.hid (And.intro hit7 (below_drew hb7)); have HT7 := Lib.hid (HT6.out.below H7.out.2); obtain ⟨_, k0, k1, _, _⟩ := HT7.out; clear hit7 hl7 hc7 hb7)
        | (go_at_call 19; refine (Stable_any N A n c zs b7 0 m c7 (ents ks) _ HT7.out.2.2.2.1 HT7.out.2.2.2.2 H7.out.1 (by omega)).mono ?_; rintro e w8 ⟨b8, c8, g8, L8, d8, rfl, hit8, hcs8, hL8, hb8⟩; have H8 := Lib.hid (And.intro hit8 (H7.out.2.trans (hb8.mono H7.out.2.size))); have HT8 := Lib.hid (HT6.out.below H8.out.2); obtain ⟨_, k2, k3, _, _⟩ := HT8.out; clear hit8 hcs8 hL8 hb8))
    have HK8 := Lib.hid (HK6.out.below H8.out.2)
    have HB8 := Lib.hid (HB6.out.trans (H8.out.2.mono HB6.out.size))
    have HX := Lib.hid (And.intro (HA6.out.below H8.out.2) (And.intro (HS.out.below H8.out.2) H8.out.1))
    generalize sorted (ltT N zs) (ents ks) = S at HX HF
    clear H7 H8 HT6 HT7 HT8 HK6 HB6 HA6 HS k0 k1 k2 k3 k4 k5
    go_wp2_with fail
    refine (tags_any b4 m c4 S _ HX.out.1 (by omega)).mono ?_
    rintro e w9 ⟨b9, c9, rfl, hi9, hb9⟩
    have HX9 := Lib.hid (And.intro (HX.out.1.below hb9) (And.intro (HX.out.2.1.below hb9) (HX.out.2.2.below hb9)))
    have HI9 := Lib.hid (And.intro hi9 (And.intro (HK8.out.below hb9) (HB8.out.trans (hb9.mono HB8.out.size))))
    clear hi9 hb9 HX HK8 HB8
    go_wp2_with fail
    refine (tags_any b6 m c6 S _ HX9.out.2.1 (by omega)).mono ?_
    rintro e wa ⟨ba, ca, rfl, hia, hba⟩
    have HXA := Lib.hid (And.intro (HX9.out.1.below hba) (And.intro (HX9.out.2.1.below hba) (HX9.out.2.2.below hba)))
    have HIA := Lib.hid (And.intro (HI9.out.1.below hba) (And.intro hia (And.intro (HI9.out.2.1.below hba) (HI9.out.2.2.trans (hba.mono HI9.out.2.2.size)))))
    clear hia hba HX9 HI9
    go_wp2_with fail
    refine (tags_any b8 m c8 S _ HXA.out.2.2 (by omega)).mono ?_
    rintro e wb ⟨bb, cb, rfl, hib, hbb⟩
    have HXB := Lib.hid (And.intro (HXA.out.1.below hbb) (And.intro (HXA.out.2.1.below hbb) (HXA.out.2.2.below hbb)))
    have HIB := Lib.hid (And.intro (HIA.out.1.below hbb) (And.intro (HIA.out.2.1.below hbb) (And.intro hib (And.intro (HIA.out.2.2.1.below hbb) (HIA.out.2.2.2.trans (hbb.mono HIA.out.2.2.2.size))))))
    clear hib hbb HXA HIA
    go_wp2_with fail
    refine (IsOrder_yes _ m c9 _ _ HIB.out.1 HF.out.2.1 HF.out.1 (by omega)).mono ?_
    rintro e wc ⟨rfl, hbc⟩
    have HBC := Lib.hid hbc
    clear hbc
    go_wp2_with fail
    refine (IsOrder_yes _ m ca _ _ (HIB.out.2.1.below HBC.out) HF.out.2.1 HF.out.1 (by omega)).mono ?_
    rintro e wd ⟨rfl, hbd⟩
    have HBD := Lib.hid (HBC.out.trans (hbd.mono HBC.out.size))
    clear hbd
    go_wp2_with fail
    refine (IsOrder_yes _ m cb _ _ (HIB.out.2.2.1.below HBD.out) HF.out.2.1 HF.out.1 (by omega)).mono ?_
    rintro e we ⟨rfl, hbe⟩
    have HBE := Lib.hid (HBD.out.trans (hbe.mono HBD.out.size))
    clear hbe HBC HBD
    go_wp2_with fail
    refine (arranged_any b4 0 m c4 B _ m d m c9 S ks _ _ (HXB.out.1.below HBE.out) (HIB.out.2.2.2.1.below HBE.out) (HIB.out.1.below HBE.out) (by omega) (by omega) (by omega) HF.out.2.1).mono ?_
    rintro e wf ⟨rfl, qf, rfl⟩
    rw [HF.out.2.2]
    have HBF := Lib.hid (below_drewN HBE.out qf)
    go_wp2_with fail
    refine (arranged_any b6 0 m c6 B _ m d m ca S ks _ _ (HXB.out.2.1.below HBF.out) (HIB.out.2.2.2.1.below HBF.out) (HIB.out.2.1.below HBF.out) (by omega) (by omega) (by omega) HF.out.2.1).mono ?_
    rintro e wg ⟨rfl, qg, rfl⟩
    rw [HF.out.2.2]
    have HBG := Lib.hid (below_drewN HBE.out (qf + qg))
    go_wp2_with fail
    refine (arranged_any b8 0 m c8 B _ m d m cb S ks _ _ (HXB.out.2.2.below HBG.out) (HIB.out.2.2.2.1.below HBG.out) (HIB.out.2.2.1.below HBG.out) (by omega) (by omega) (by omega) HF.out.2.1).mono ?_
    rintro e wh ⟨rfl, qh, rfl⟩
    rw [HF.out.2.2]
    go_wp2_with fail
    go_ret
    have hB := HIB.out.2.2.2.2.trans (HBE.out.mono HIB.out.2.2.2.2.size)
    exact ⟨rfl, ⟨hB.os, hB.tape, hB.output, hB.size, hB.block⟩⟩
end Go.Proofs.Ytlhddfmijdonlaa
