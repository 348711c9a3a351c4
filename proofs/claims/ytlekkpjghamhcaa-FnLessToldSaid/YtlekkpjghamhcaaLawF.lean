/- Walks: laws.FnReplayed returns true. -/
import Derived.Test.YtlekkpjghamhcaaSame
import Derived.Test.YtlekkpjghamhcaaHelpF
import Derived.BigRegion
namespace Go.Proofs.Ytlekkpjghamhcaa
open Go.RowKit Go.Sort Go.Lib

theorem CallsR.row {w W : World} {g n b : Nat} {d : Array It} {cs : List Cl} (h : CallsR w g 0 n cs) (hr : RowR b w d W) (hne : g ≠ b) : CallsR W g 0 n cs :=
  have hc : ∀ o, W.cell? ⟨g, o, none⟩ = w.cell? ⟨g, o, none⟩ := fun _ => World.cell?_of_block (hr.only.block g h.2.1 (fun e => by injection e with e; exact hne e))
  ⟨h.1, Nat.lt_of_lt_of_le h.2.1 hr.only.size, fun i hi => ⟨(hc _).trans (h.2.2 i hi).1, (hc _).trans (h.2.2 i hi).2.1, (hc _).trans (h.2.2 i hi).2.2.1, (hc _).trans (h.2.2 i hi).2.2.2⟩⟩

set_option maxHeartbeats 2000000 in
set_option maxRecDepth 100000 in
theorem FnReplayed_said (w : World) (N : Int) (_wN : (Lit.int .i64 N).wf = true) {A B : Option Addr} {n c m d : Nat} {zs ks : List Int} (hz : IntsR w A n zs) (hnc : n ≤ c) (hc : c ≤ maxLen) (hk : IntsR w B m ks) (hmd : m ≤ d) (hd : d ≤ maxLen) :
    Calls Try.prog 10 #[.int .i64 N, .slice A n c, .slice B m d] w fun e w' => e = .returned (.bool true) ∧ Below w.heap.size w w' := by
  have hn : n ≤ maxLen := Nat.le_trans hnc hc
  have hm : m ≤ maxLen := Nat.le_trans hmd hd
  have hmm : m ≤ 9223372036854775807 := by unfold maxLen at hm; omega
  have HZ := Lib.hid hz
  have HK := Lib.hid hk
  have HN := Lib.hid hn
  clear hz hk hn hnc hc hmd hd hm
  by_cases hbig : 3000 < m
  · have hb : (3000 : Int) < (m : Int) := by omega
    go_enter Try.func10, Try.ntmps10
    go_wp2_with fail
    go_ret
    exact ⟨rfl, Below.refl _ _⟩
  · have hb : ¬ (3000 : Int) < (m : Int) := by omega
    go_enter Try.func10, Try.ntmps10
    go_wp2_with fail
    refine (entries_any B m d ks w HK.out (by omega)).mono ?_
    rintro e w3 ⟨b3, c3, rfl, hown3, hb3⟩
    have H3 := Lib.hid (And.intro (show ItemsR w3 b3 0 m (ents ks) from ⟨by rw [ents_length]; exact HK.out.1, hown3.items.2.1, by have := hown3.items.2.2; rw [ents_length, HK.out.1] at this; exact this⟩) hb3)
    clear hown3 hb3
    go_wp2_with fail
    refine (Stable_any N A n c zs b3 0 m c3 (ents ks) w3 (HZ.out.below H3.out.2) HN.out H3.out.1 (by omega)).mono ?_
    rintro e w4 ⟨b4, c4, g4, L4, d4, rfl, hit4, hcs4, hL4, hb4⟩
    have HB := Lib.hid (H3.out.2.trans (hb4.mono H3.out.2.size))
    have HCS := Lib.hid (And.intro hit4 (show CallsR w4 g4 0 L4 (callsOf (ltT N zs) (ents ks)) from hcs4))
    clear hit4 hcs4 hb4 H3
    go_wp2_with fail
    refine (entries_any B m d ks w4 (HK.out.below HB.out) (by omega)).mono ?_
    rintro e w5 ⟨b5, c5, rfl, hown5, hb5⟩
    have hlt5 := hown5.lt
    have hg4 := HCS.out.2.2.1
    have hb4l := HCS.out.1.2.1
    have hne : g4 ≠ b5 := by omega
    have hne4 : b4 ≠ b5 := by omega
    have HR := Lib.hid (RowR.start hlt5.2 hown5.holds)
    have H5 := Lib.hid (And.intro (HCS.out.1.below hb5) (And.intro (HCS.out.2.below hb5) (HB.out.trans (hb5.mono HB.out.size))))
    have HAT := Lib.hid (fun k hk => call_at (ltT N zs) (ents ks) k hk)
    have HL := Lib.hid (show (callsOf (ltT N zs) (ents ks)).length = L4 from HCS.out.2.1)
    have HM := Lib.hid (show (ents ks).length = m from by rw [ents_length]; exact HK.out.1)
    have HBL := Lib.hid (show w.heap.size ≤ b5 from by have := HB.out.size; omega)
    have HE := Lib.hid (stood_end (ltT N zs) (ents ks))
    rw [HL.out] at HE
    have hsz := fun k => stoodAt_size (ltT N zs) (ents ks) k
    rw [HM.out] at hsz
    have HSZ := Lib.hid hsz
    have h0 := stood_start (ltT N zs) (ents ks)
    rw [← h0] at HR
    clear h0 hsz
    generalize stoodAt (ltT N zs) (ents ks) = st at HAT HE HR HSZ
    generalize callsOf (ltT N zs) (ents ks) = cs at H5 HAT HL
    generalize sorted (ltT N zs) (ents ks) = out at H5 HE
    clear HCS hown5 hb5 HB hlt5 hg4 hb4l
    go_wp2_with fail
    go_loopg [28] L4 (fun g vi wr => ∃ (k : Nat), vi = .int .i64 k ∧ k ≤ L4 ∧ L4 - k ≤ g ∧ Hid (RowR b5 w5 (st k) wr))
    case atStart => exact ⟨0, rfl, by omega, by omega, HR.out⟩
    case round =>
      obtain ⟨k, rfl, hkL, hg, HRR⟩ := hrel
      by_cases hlt : k < L4
      · have hltz : (k : Int) < (L4 : Int) := by omega
        obtain ⟨x1, x2, x3, x4⟩ := (H5.out.2.1.row HRR.out hne).at hlt
        have hg4 : g4 < wr.heap.size := (H5.out.2.1.row HRR.out hne).2.1
        have hkz : 0 ≤ (k : Int) := by omega
        rcases HAT.out k (by rw [HL.out]; exact hlt) with ⟨h0, hC, hst⟩ | ⟨h0, i, j, hi, hj, hC, hst⟩ | ⟨h0, i, j, hi, hj, hC, hst⟩
        · rw [hC] at x1 x2 x3 x4
          rw [← hst] at HRR
          subst h0
          clear hC hst
          go_wp2_with fail
          go_roundg (L4 - (0 + 1))
          case measure => omega
          case rel => exact ⟨0 + 1, by go_num, by omega, Nat.le_refl _, HRR.out.alloc _⟩
        · rw [hC] at x1 x2 x3 x4
          rw [HM.out] at hi hj
          rw [← hst] at HRR
          clear hC
          generalize ltT N zs _ _ = yes at x4
          clear hst
          go_wp2_with fail
          go_roundg (L4 - (k + 1))
          case measure => omega
          case rel => exact ⟨k + 1, by go_num, by omega, Nat.le_refl _, HRR.out.alloc _⟩
        · rw [hC] at x1 x2 x3 x4
          rw [HM.out] at hi hj
          have HST := Lib.hid hst
          clear hC hst
          go_wp2_with fail
          have hRA := HRR.out.alloc (.cells #[.int .i64 2, .int .i64 i, .int .i64 j, .bool false] 39)
          have m1 : (wr.alloc (.cells #[.int .i64 2, .int .i64 i, .int .i64 j, .bool false] 39)).cell? ⟨wr.heap.size, 1, none⟩ = some (.int .i64 i) := by simp
          have m2 : (wr.alloc (.cells #[.int .i64 2, .int .i64 i, .int .i64 j, .bool false] 39)).cell? ⟨wr.heap.size, 2, none⟩ = some (.int .i64 j) := by simp
          have hcb : wr.heap.size ≠ b5 := by have := HRR.out.ltW; omega
          generalize wr.alloc (.cells #[.int .i64 2, .int .i64 i, .int .i64 j, .bool false] 39) = wq at hRA m1 m2 ⊢
          clear x1 x2 x3 x4 HRR hg4
          generalize wr.heap.size = cb at hcb m1 m2 ⊢
          have hi' : i < (st k).size := by rw [HSZ.out]; exact hi
          have hj' : j < (st k).size := by rw [HSZ.out]; exact hj
          obtain ⟨x1, x2, y1, y2⟩ := hRA.at hi'
          obtain ⟨u1, u2, v1, v2⟩ := hRA.at hj'
          obtain ⟨z1, z2, hz1, hz2⟩ := hRA.stores (i := i) hj' (st k)[j]!
          have HW := Lib.hid (hRA.swapped hi' hj')
          rw [← HST.out] at HW
          generalize (st k)[i]! = X at x1 x2 HW
          generalize (st k)[j]! = Y at u1 u2 hz1 hz2 HW
          clear hi' hj' hRA HST
          have qa : (i : Int) < (m : Int) := by omega
          have qb : (j : Int) < (m : Int) := by omega
          go_region
          all_goals go_wp2
          go_roundg (L4 - (k + 1))
          case measure => omega
          case rel => exact ⟨k + 1, by go_num, by omega, Nat.le_refl _, HW.out.drewN 1⟩
      · have hltz : ¬ (k : Int) < (L4 : Int) := by omega
        obtain rfl : k = L4 := by omega
        have hit := HRR.out.items
        rw [HSZ.out, HE.out] at hit
        have HI := Lib.hid hit
        clear hit
        have hI4 : ItemsR wr b4 0 m out := ⟨H5.out.1.1, Nat.lt_of_lt_of_le H5.out.1.2.1 HRR.out.only.size, fun i hi => by
          have hc : ∀ o, wr.cell? ⟨b4, o, none⟩ = w5.cell? ⟨b4, o, none⟩ := fun _ => World.cell?_of_block (HRR.out.only.block b4 H5.out.1.2.1 (fun e => by injection e with e; exact hne4 e))
          exact ⟨(hc _).trans (H5.out.1.2.2 i hi).1, (hc _).trans (H5.out.1.2.2 i hi).2⟩⟩
        have HI4 := Lib.hid hI4
        clear hI4
        go_wp2_with fail
        refine (same_eq b5 0 m c5 b4 0 c4 out wr HI.out HI4.out (by omega)).mono ?_
        rintro e w6 ⟨rfl, q6, rfl⟩
        go_wp2_with fail
        go_ret
        have hB : Below w.heap.size w wr := below_app H5.out.2.2 HRR.out.only H5.out.2.2.size HBL.out
        exact ⟨rfl, ⟨hB.os, hB.tape, hB.output, hB.size, hB.block⟩⟩
end Go.Proofs.Ytlekkpjghamhcaa
