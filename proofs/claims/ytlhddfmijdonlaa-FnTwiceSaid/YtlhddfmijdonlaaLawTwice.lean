/- Walks: laws.FnTwice returns true. -/
import Derived.Test.YtlhddfmijdonlaaRoads
namespace Go.Proofs.Ytlhddfmijdonlaa
open Go.RowKit Go.Sort Go.Lib

set_option maxHeartbeats 4000000 in
set_option maxRecDepth 100000 in
theorem FnTwice_walk (A B : Option Addr) (n c m d : Nat) (zs ks : List Int) (w : World) (hz : IntsR w A n zs) (hk : IntsR w B m ks) (hn : n ≤ maxLen) (hnc : n ≤ c) (hm : m ≤ maxLen) (hmd : m ≤ d) :
    Calls Try.prog 4 #[.slice A n c, .slice B m d] w fun e w' => e = .returned (.bool true) ∧ Below w.heap.size w w' := by
  have HC := Lib.hid (ranked_any A B n c m d zs ks w hz hk hn hnc hm hmd)
  clear hz hk hn hnc hm hmd
  have hz3 : (zs.take 300).length ≤ 300 := by rw [List.length_take]; omega
  generalize zs.take 300 = rs at HC hz3
  have hkin := rankKeys_in rs.length ks
  have hkle := rankKeys_le rs.length ks
  have hrl := rankT_length rs
  generalize rankKeys rs.length ks = k at HC hkin hkle
  have hW := rank_weak rs (by omega)
  have hw : Weak (ltT (rs.length : Int) (rankT rs)) (· ∈ ents k) := hW.weak (ents_keys hkin)
  have htw : sorted (ltT (rs.length : Int) (rankT rs)) (sorted (ltT (rs.length : Int) (rankT rs)) (ents k)) = sorted (ltT (rs.length : Int) (rankT rs)) (ents k) := sortedA_twice hw (ents_nodup k)
  have hLm : (rankT rs).length ≤ maxLen := by
    rw [hrl]; have := Nat.mul_le_mul hz3 hz3; unfold maxLen; omega
  have HF := Lib.hid (And.intro htw hLm)
  clear hkin hW hw htw hrl hLm
  go_enter Try.func4, Try.ntmps4
  go_wp2_with fail
  refine HC.out.mono ?_
  rintro e w1 ⟨b1, c1, L, b2, c2, M, rfl, hL, hM, hownT, hownK, hb1⟩
  have HO := Lib.hid (And.intro hL (And.intro hM (And.intro hownT (And.intro hownK hb1))))
  clear hL hM hownT hownK hb1 HC
  go_wp2_with fail
  have x0 : (w1.alloc (.cells #[.int .i64 (rs.length : Int), .slice (some ⟨b1, 0, none⟩) L c1] 24)).cell? ⟨w1.heap.size, 0, none⟩ = some (.int .i64 (rs.length : Int)) := by simp
  have x1 : (w1.alloc (.cells #[.int .i64 (rs.length : Int), .slice (some ⟨b1, 0, none⟩) L c1] 24)).cell? ⟨w1.heap.size, 1, none⟩ = some (.slice (some ⟨b1, 0, none⟩) L c1) := by simp
  have s1 : w1.heap.size < (w1.alloc (.cells #[.int .i64 (rs.length : Int), .slice (some ⟨b1, 0, none⟩) L c1] 24)).heap.size := by simp
  have hI : IntsR (w1.alloc (.cells #[.int .i64 (rs.length : Int), .slice (some ⟨b1, 0, none⟩) L c1] 24)) (some ⟨b1, 0, none⟩) L (rankT rs) := by rw [HO.out.1]; exact HO.out.2.2.1.ints.alloc _
  have hK : IntsR (w1.alloc (.cells #[.int .i64 (rs.length : Int), .slice (some ⟨b1, 0, none⟩) L c1] 24)) (some ⟨b2, 0, none⟩) M k := by rw [HO.out.2.1]; exact HO.out.2.2.2.1.ints.alloc _
  have hB : Below w.heap.size w (w1.alloc (.cells #[.int .i64 (rs.length : Int), .slice (some ⟨b1, 0, none⟩) L c1] 24)) := HO.out.2.2.2.2.alloc HO.out.2.2.2.2.size _
  have hML := HO.out.2.1
  have hLL := HO.out.1
  generalize w1.alloc (.cells #[.int .i64 (rs.length : Int), .slice (some ⟨b1, 0, none⟩) L c1] 24) = w2 at x0 x1 s1 hI hK hB ⊢
  generalize w1.heap.size = tb at x0 x1 s1 ⊢
  have HI := Lib.hid hI
  have HK := Lib.hid hK
  have HB := Lib.hid hB
  have HM := Lib.hid (And.intro hML (show L ≤ maxLen by rw [hLL]; exact HF.out.2))
  have hM3 : M ≤ 3000 := by omega
  clear hI hK hB hML hLL HO
  have tr := fun (W : World) (hs : tb < W.heap.size) (W' : World) (hb : Below W.heap.size W W') (y0 : W.cell? ⟨tb, 0, none⟩ = some (.int .i64 (rs.length : Int))) (y1 : W.cell? ⟨tb, 1, none⟩ = some (.slice (some ⟨b1, 0, none⟩) L c1)) =>
    show tb < W'.heap.size ∧ W'.cell? ⟨tb, 0, none⟩ = some (.int .i64 (rs.length : Int)) ∧ W'.cell? ⟨tb, 1, none⟩ = some (.slice (some ⟨b1, 0, none⟩) L c1) from
    ⟨Nat.lt_of_lt_of_le hs hb.size, (hb.cell (p := ⟨tb, 0, none⟩) hs).trans y0, (hb.cell (p := ⟨tb, 1, none⟩) hs).trans y1⟩
  have TR := Lib.hid tr
  clear tr
  go_region_held3 (fun w' => w'.cell? ⟨tb, 0, none⟩ = some (.int .i64 (rs.length : Int)) ∧ w'.cell? ⟨tb, 1, none⟩ = some (.slice (some ⟨b1, 0, none⟩) L c1)) (go_keep)
    (first
      | (go_at_call 13; refine (entries_any _ M c2 k _ (by exact HK.out) (by omega)).mono ?_; rintro e w3 ⟨b3, c3, rfl, hown3, hb3⟩; have H3 := Lib.hid (And.intro hown3 (show Below w2.heap.size w2 w3 from ⟨hb3.os, hb3.tape, hb3.output, hb3.size, hb3.block⟩)); obtain ⟨s3, k0, k1⟩ := TR.out w2 s1 w3 H3.out.2 x0 x1; clear hown3 hb3)
      | (go_at_call 14; refine (roads_any _ _ L c1 (rankT rs) b3 0 M c3 (ents k) _ (HI.out.below H3.out.2) HM.out.2 ⟨by rw [ents_length]; exact HM.out.1.symm, H3.out.1.items.2.1, by rw [HM.out.1, ← ents_length]; exact H3.out.1.items.2.2⟩ (by omega)).mono ?_; rintro e w4 ⟨r0, q0, r1, q1, r2, q2, rfl, hrd, hb4⟩; have H4 := Lib.hid (And.intro hrd (show Below w2.heap.size w2 w4 from H3.out.2.trans (hb4.mono H3.out.2.size))); obtain ⟨s4, k2, k3⟩ := TR.out w2 s1 w4 H4.out.2 x0 x1; clear hrd hb4))
  have HZ4 := Lib.hid (HI.out.below H4.out.2)
  have HBB := Lib.hid (HB.out.trans (H4.out.2.mono HB.out.size))
  have HS := Lib.hid (And.intro (show sorted (ltT (rs.length : Int) (rankT rs)) (sorted (ltT (rs.length : Int) (rankT rs)) (ents k)) = sorted (ltT (rs.length : Int) (rankT rs)) (ents k) from HF.out.1) H4.out.1)
  generalize sorted (ltT (rs.length : Int) (rankT rs)) (ents k) = S at HS
  clear H3 H4 HF HI HK HB k0 k1 s3 s1 x0 x1
  go_wp2_with fail
  go_loopg [21] 3 (fun g vi wr => ∃ (i : Nat), vi = .int .i64 i ∧ i ≤ 3 ∧ 3 - i ≤ g ∧ Hid (Below w4.heap.size w4 wr))
  case atStart => exact ⟨0, rfl, by omega, by omega, Below.refl _ _⟩
  case round =>
    obtain ⟨i, rfl, hi3, hg, HR⟩ := hrel
    obtain ⟨t4, y0, y1⟩ := TR.out w4 s4 wr HR.out k2 k3
    by_cases hlt : i < 3
    · have hltz : (i : Int) < 3 := by omega
      obtain ⟨b, cc, hp3, hpr⟩ := pick3_slice r0 q0 r1 q1 r2 q2 M i
      have HIT := Lib.hid (hpr wr S (HS.out.2.below HR.out))
      clear hpr
      go_wp2_with (refine wpList_index3 rfl (.tmp 20) (.tmp 21) rfl _ _ _ rfl i hlt rfl ?_; rw [hp3])
      refine (roads_any _ _ L c1 (rankT rs) b 0 M cc S wr (HZ4.out.below HR.out) HM.out.2 HIT.out (by omega)).mono ?_
      rintro e w5 ⟨p0, d0, p1, d1, p2, d2, rfl, hrd, hb5⟩
      rw [HS.out.1] at hrd
      have H5 := Lib.hid (And.intro hrd hb5)
      clear hrd hb5
      go_wp2_with fail
      go_loopg [32] 3 (fun g vj wr2 => ∃ (j : Nat), vj = .int .i64 j ∧ j ≤ 3 ∧ 3 - j ≤ g ∧ Hid (Below w5.heap.size w5 wr2))
      case atStart => exact ⟨0, rfl, by omega, by omega, Below.refl _ _⟩
      case round =>
        obtain ⟨j, rfl, hj3, hg2, HR2⟩ := hrel
        by_cases hlt2 : j < 3
        · have hltz2 : (j : Int) < 3 := by omega
          obtain ⟨b', cc', hp4, hpr'⟩ := pick3_slice p0 d0 p1 d1 p2 d2 M j
          have HIT' := Lib.hid (hpr' _ S (H5.out.1.below HR2.out))
          have HX := Lib.hid ((HIT.out.below H5.out.2).below HR2.out)
          clear hpr'
          go_wp2_with (refine wpList_index3 rfl (.tmp 31) (.tmp 32) rfl _ _ _ rfl j hlt2 rfl ?_; rw [hp4])
          refine (same_eq b 0 M cc b' 0 cc' S _ HX.out HIT'.out (by omega)).mono ?_
          rintro e w6 ⟨rfl, qq, rfl⟩
          go_wp2_with fail
          go_roundg (3 - (j + 1))
          case measure => omega
          case rel => exact ⟨j + 1, by go_num, by omega, Nat.le_refl _, (show Hid _ from ⟨HR2.out.os, HR2.out.tape, HR2.out.output, HR2.out.size, HR2.out.block⟩)⟩
        · have hltz2 : ¬ (j : Int) < 3 := by omega
          go_wp2_with fail
          go_roundg (3 - (i + 1))
          case measure => omega
          case rel => exact ⟨i + 1, by go_num, by omega, Nat.le_refl _, (show Hid _ from (HR.out.trans (H5.out.2.mono HR.out.size)).trans (HR2.out.mono (Nat.le_trans HR.out.size H5.out.2.size)))⟩
    · have hltz : ¬ (i : Int) < 3 := by omega
      go_wp2_with fail
      go_ret
      exact ⟨rfl, HBB.out.trans (HR.out.mono HBB.out.size)⟩

theorem FnTwice_said {A B : Option Addr} {n c m d : Nat} {zs ks : List Int} (w : World) (hz : IntsR w A n zs) (hnc : n ≤ c) (hc : c ≤ maxLen) (hk : IntsR w B m ks) (hmd : m ≤ d) (hd : d ≤ maxLen) :
    Calls Try.prog 4 #[.slice A n c, .slice B m d] w fun e w' => e = .returned (.bool true) ∧ Below w.heap.size w w' :=
  FnTwice_walk A B n c m d zs ks w hz hk (Nat.le_trans hnc hc) hnc (Nat.le_trans hmd hd) hmd
end Go.Proofs.Ytlhddfmijdonlaa
