/- Walks: laws.FnAskedEnough returns true. -/
import Derived.Test.YtlekkpjghamhcaaAsk
import Derived.Test.YtlekkpjghamhcaaBools
import Derived.Deep.RegionHeld3
import Derived.BigRegion
import Derived.BigQuiet
namespace Go.Proofs.Ytlekkpjghamhcaa
open Go.RowKit Go.Sort Go.Lib

theorem ix_facts (m t u S : Nat) (hS : m * m = S) (hm : m ≤ 60) (ht : t < m) (hu : u < m) :
    IntKind.i64.wrap ((t : Int) * (m : Int)) = (t : Int) * (m : Int) ∧ IntKind.i64.wrap ((t : Int) * (m : Int) + (u : Int)) = (t : Int) * (m : Int) + (u : Int) ∧ 0 ≤ (t : Int) * (m : Int) + (u : Int) ∧ (t : Int) * (m : Int) + (u : Int) < (S : Int) ∧
      ((t : Int) * (m : Int) + (u : Int)).toNat = t * m + u ∧ t * m + u < S ∧ 0 ≤ (t : Int) * (m : Int) ∧ (t : Int) * (m : Int) ≤ 3600 := by
  have h1 : t * m + u < m * m := flat_lt ht hu
  have h2 : m * m ≤ 60 * 60 := Nat.mul_le_mul hm hm
  have e : (t : Int) * (m : Int) = ((t * m : Nat) : Int) := (Int.natCast_mul t m).symm
  rw [e, hS] at *
  generalize t * m = q at *
  refine ⟨?_, ?_, by omega, by omega, by omega, by omega, by omega, by omega⟩
  · rw [IntKind.wrap_i64]; omega
  · rw [IntKind.wrap_i64]; omega

set_option maxHeartbeats 4000000 in
set_option maxRecDepth 100000 in
theorem FnAskedEnough_walk (A B : Option Addr) (n c m d : Nat) (zs ks : List Int) (w : World) (hz : IntsR w A n zs) (hk : IntsR w B m ks) (hn : n ≤ maxLen) (hnc : n ≤ c) (hm : m ≤ maxLen) (hmd : m ≤ d) :
    Calls Try.prog 5 #[.slice A n c, .slice B m d] w fun e w' => e = .returned (.bool true) ∧ Below w.heap.size w w' := by
  have HC := Lib.hid (ranked_any A B n c m d zs ks w hz hk hn hnc hm hmd)
  clear hz hk hn hnc hm hmd
  have hz3 : (zs.take 300).length ≤ 300 := by rw [List.length_take]; omega
  generalize zs.take 300 = rs at HC hz3
  have hkle := rankKeys_le rs.length ks
  have hrl := rankT_length rs
  generalize rankKeys rs.length ks = k at HC hkle
  have hLm : (rankT rs).length ≤ maxLen := by
    rw [hrl]; have := Nat.mul_le_mul hz3 hz3; unfold maxLen; omega
  have HF := Lib.hid hLm
  clear hrl hLm
  go_enter Try.func5, Try.ntmps5
  go_wp2_with fail
  refine HC.out.mono ?_
  rintro e w1 ⟨b1, c1, L, b2, c2, M, rfl, hL, hM, hownT, hownK, hb1⟩
  have HO := Lib.hid (And.intro hL (And.intro hM (And.intro hownT (And.intro hownK hb1))))
  clear hL hM hownT hownK hb1 HC
  have x0 : (w1.alloc (.cells #[.int .i64 (rs.length : Int), .slice (some ⟨b1, 0, none⟩) L c1] 24)).cell? ⟨w1.heap.size, 0, none⟩ = some (.int .i64 (rs.length : Int)) := by simp
  have x1 : (w1.alloc (.cells #[.int .i64 (rs.length : Int), .slice (some ⟨b1, 0, none⟩) L c1] 24)).cell? ⟨w1.heap.size, 1, none⟩ = some (.slice (some ⟨b1, 0, none⟩) L c1) := by simp
  have s1 : w1.heap.size < (w1.alloc (.cells #[.int .i64 (rs.length : Int), .slice (some ⟨b1, 0, none⟩) L c1] 24)).heap.size := by simp
  have hI : IntsR (w1.alloc (.cells #[.int .i64 (rs.length : Int), .slice (some ⟨b1, 0, none⟩) L c1] 24)) (some ⟨b1, 0, none⟩) L (rankT rs) := by rw [HO.out.1]; exact HO.out.2.2.1.ints.alloc _
  have hK : IntsR (w1.alloc (.cells #[.int .i64 (rs.length : Int), .slice (some ⟨b1, 0, none⟩) L c1] 24)) (some ⟨b2, 0, none⟩) M k := by rw [HO.out.2.1]; exact HO.out.2.2.2.1.ints.alloc _
  have hB : Below w.heap.size w (w1.alloc (.cells #[.int .i64 (rs.length : Int), .slice (some ⟨b1, 0, none⟩) L c1] 24)) := HO.out.2.2.2.2.alloc HO.out.2.2.2.2.size _
  have hML := HO.out.2.1
  have hLL := HO.out.1
  have hM3 : M ≤ 3000 := by omega
  have HM := Lib.hid (And.intro hML hLL)
  clear HO hML hLL
  by_cases hbig : 60 < M
  · have hbz : (60 : Int) < (M : Int) := by omega
    go_wp2_with fail
    go_ret
    exact ⟨rfl, hB⟩
  have hbz : ¬ (60 : Int) < (M : Int) := by omega
  have hM60 : M ≤ 60 := by omega
  go_upto_region 4 with fail
  generalize w1.alloc (.cells #[.int .i64 (rs.length : Int), .slice (some ⟨b1, 0, none⟩) L c1] 24) = w2 at x0 x1 s1 hI hK hB ⊢
  generalize w1.heap.size = tb at x0 x1 s1 ⊢
  have HI := Lib.hid hI
  have HK := Lib.hid hK
  have HB := Lib.hid hB
  clear hI hK hB
  have tr := fun (W : World) (hs : tb < W.heap.size) (W' : World) (hb : Below W.heap.size W W') (y0 : W.cell? ⟨tb, 0, none⟩ = some (.int .i64 (rs.length : Int))) (y1 : W.cell? ⟨tb, 1, none⟩ = some (.slice (some ⟨b1, 0, none⟩) L c1)) =>
    show tb < W'.heap.size ∧ W'.cell? ⟨tb, 0, none⟩ = some (.int .i64 (rs.length : Int)) ∧ W'.cell? ⟨tb, 1, none⟩ = some (.slice (some ⟨b1, 0, none⟩) L c1) from
    ⟨Nat.lt_of_lt_of_le hs hb.size, (hb.cell (p := ⟨tb, 0, none⟩) hs).trans y0, (hb.cell (p := ⟨tb, 1, none⟩) hs).trans y1⟩
  have TR := Lib.hid tr
  clear tr
  go_region_held3 (fun w' => w'.cell? ⟨tb, 0, none⟩ = some (.int .i64 (rs.length : Int)) ∧ w'.cell? ⟨tb, 1, none⟩ = some (.slice (some ⟨b1, 0, none⟩) L c1)) (go_keep)
    (first
      | (go_at_call 18; refine (entries_any _ M c2 k _ (by exact HK.out) (by omega)).mono ?_; rintro e w3 ⟨b3, c3, rfl, hown3, hb3⟩; have H3 := Lib.hid (And.intro hown3 (show Below w2.heap.size w2 w3 from ⟨hb3.os, hb3.tape, hb3.output, hb3.size, hb3.block⟩)); obtain ⟨s3, k0, k1⟩ := TR.out w2 s1 w3 H3.out.2 x0 x1; clear hown3 hb3)
      | (go_at_call 21; refine (Stable_any _ _ L c1 (rankT rs) b3 0 M c3 (ents k) _ (HI.out.below H3.out.2) (by rw [HM.out.2]; exact HF.out) ⟨by rw [ents_length]; exact HM.out.1.symm, H3.out.1.items.2.1, by rw [HM.out.1, ← ents_length]; exact H3.out.1.items.2.2⟩ (by omega)).mono ?_; rintro e w4 ⟨b4, c4, g4, L4, d4, rfl, hit4, hcs4, hL4, hb4⟩; have H4 := Lib.hid (And.intro hit4 (And.intro (show CallsR w4 g4 0 L4 (callsOf (ltT (rs.length : Int) (rankT rs)) (ents k)) from hcs4) (show Below w2.heap.size w2 w4 from H3.out.2.trans (hb4.mono H3.out.2.size)))); obtain ⟨s4, k2, k3⟩ := TR.out w2 s1 w4 H4.out.2.2 x0 x1; clear hcs4 hit4 hb4))
  clear k0 k1 k2 k3 x0 x1 TR H3 s1 s3 s4
  obtain ⟨S, hS⟩ : ∃ S, M * M = S := ⟨_, rfl⟩
  have hSS : S ≤ 3600 := by rw [← hS]; exact Nat.mul_le_mul hM60 hM60
  have E := Lib.hid (show (M : Int) * (M : Int) = (S : Int) from by rw [← hS]; exact (Int.natCast_mul M M).symm)
  have hE1 : (0 : Int) ≤ (M : Int) * M := by rw [E.out]; omega
  have hE2 : (M : Int) * M ≤ 3600 := by rw [E.out]; omega
  go_wp2_with (at_make; refine wpList_makeB rfl (.tmp 40) (.tmp 40) rfl S (by exact congrArg (Value.int .i64) E.out) (by exact congrArg (Value.int .i64) E.out) (by omega) ?_; intro w5 hown5 hgrow5)
  have HB5 := Lib.hid (show Below w4.heap.size w4 w5 from (Below.refl _ _).grown hgrow5.out (Nat.le_refl _) (fun k hk => by cases hk))
  have HO5 := Lib.hid hown5.out
  clear hown5 hgrow5 hE1 hE2
  refine (entries_any _ M c2 k w5 (HK.out.below (H4.out.2.2.trans (HB5.out.mono H4.out.2.2.size))) (by omega)).mono ?_
  rintro e w6 ⟨b6, c6, rfl, hown6, hb6⟩
  have HTW := Lib.hid (show Two w4 b6 w4.heap.size S (ents k).toArray (fun _ => false) w6 from
    have hl := hown6.lt
    have h1 := HO5.out.1
    ⟨RowR.start hl.2 hown6.holds, HO5.out.below hb6, HB5.out.trans (hb6.mono HB5.out.size), by omega, by omega, Nat.le_refl _⟩)
  clear hown6 hb6 HB5 HO5
  have HCS := Lib.hid H4.out.2.1
  have HIT := Lib.hid H4.out.1
  have HBW := Lib.hid (show Below w.heap.size w w4 from HB.out.trans (H4.out.2.2.mono HB.out.size))
  have HMK := Lib.hid HM.out.1
  clear H4 HB HI HK HM
  have HAT := Lib.hid (fun q hq => call_at (ltT (rs.length : Int) (rankT rs)) (ents k) q hq)
  have HL := Lib.hid (show (callsOf (ltT (rs.length : Int) (rankT rs)) (ents k)).length = L4 from HCS.out.1)
  have HMM := Lib.hid (show (ents k).length = M from by rw [ents_length]; exact HMK.out.symm)
  have HSZ := Lib.hid (show ∀ q, (stoodAt (ltT (rs.length : Int) (rankT rs)) (ents k) q).size = M from fun q => by rw [stoodAt_size, HMM.out])
  have HTG := Lib.hid (show ∀ q i, i < M → ∃ t : Nat, t < M ∧ (stoodAt (ltT (rs.length : Int) (rankT rs)) (ents k) q)[i]!.2 = (t : Int) from fun q i hi => by
    have h := stood_tag (ltT (rs.length : Int) (rankT rs)) k q i (by rw [HMM.out]; exact hi)
    rw [← HMK.out] at h
    exact h)
  have HAE := Lib.hid (fun f0 f (hK : Knows M (callsOf (ltT (rs.length : Int) (rankT rs)) (ents k)) (stoodAt (ltT (rs.length : Int) (rankT rs)) (ents k)) L4 f0) (hW : War M M f0 f) (p : Nat) (hp : p + 1 < M) =>
    show ∃ x y : Nat, x < M ∧ y < M ∧ ((sorted (ltT (rs.length : Int) (rankT rs)) (ents k)).getD p (0, 0)).2 = (x : Int) ∧ ((sorted (ltT (rs.length : Int) (rankT rs)) (ents k)).getD (p + 1) (0, 0)).2 = (y : Int) ∧ f (x * M + y) = true from by
      have h := asked_enough (ltT (rs.length : Int) (rankT rs)) k f0 f
      rw [← HMK.out, HL.out] at h
      exact h hK hW p hp)
  have h0 := stood_start (ltT (rs.length : Int) (rankT rs)) (ents k)
  rw [← h0] at HTW
  clear h0 HMK
  generalize sorted (ltT (rs.length : Int) (rankT rs)) (ents k) = out at HIT HAE
  generalize hst : stoodAt (ltT (rs.length : Int) (rankT rs)) (ents k) = st at HAT HTW HSZ HTG HAE
  generalize hcs : callsOf (ltT (rs.length : Int) (rankT rs)) (ents k) = cs at HCS HAT HL HAE
  clear hst hcs
  go_wp2_with fail
  go_loopg [46] L4 (fun g vi wr => ∃ (q : Nat) (f : Nat → Bool), vi = .int .i64 q ∧ q ≤ L4 ∧ L4 - q ≤ g ∧ Hid (Two w4 b6 w4.heap.size S (st q) f wr) ∧ Hid (Knows M cs st q f))
  case atStart => exact ⟨0, _, rfl, by omega, by omega, HTW.out, Knows.start _ _ _ _⟩
  case round =>
    obtain ⟨q, f, rfl, hqL, hg, HRR, HKN⟩ := hrel
    clear HTW
    by_cases hlt : q < L4
    · have hltz : (q : Int) < (L4 : Int) := by omega
      obtain ⟨y1, y2, y3, y4⟩ := (HCS.out.below HRR.out.below).at hlt
      have hg4 : g4 < wr.heap.size := (HCS.out.below HRR.out.below).2.1
      have hqz : 0 ≤ (q : Int) := by omega
      rcases HAT.out q (by rw [HL.out]; exact hlt) with ⟨h0, hC, hst⟩ | ⟨h0, i, j, hi, hj, hC, hst⟩ | ⟨h0, i, j, hi, hj, hC, hst⟩
      · have HK2 := Lib.hid (HKN.out.skip (by rw [hC]; show (0 : Int) ≠ 1; omega))
        rw [hC] at y1 y2 y3 y4
        rw [← hst] at HRR
        subst h0
        clear hC hst
        go_wp2_with fail
        go_roundg (L4 - (0 + 1))
        case measure => omega
        case rel => exact ⟨0 + 1, f, by go_num, by omega, Nat.le_refl _, (show Hid _ from HRR.out.alloc _), HK2⟩
      · rw [HMM.out] at hi hj
        obtain ⟨t, ht, e1⟩ := HTG.out q i hi
        obtain ⟨u, hu, e2⟩ := HTG.out q j hj
        generalize ltT (rs.length : Int) (rankT rs) (st q)[i]! (st q)[j]! = yes at hC
        have hKS := fun p hp => HKN.out.set hC p hp
        rw [hC] at y1 y2 y3 y4
        rw [e1, e2] at hKS
        have qa : (i : Int) < (M : Int) := by omega
        have qb : (j : Int) < (M : Int) := by omega
        have hi' : i < (st q).size := by rw [HSZ.out]; exact hi
        have hj' : j < (st q).size := by rw [HSZ.out]; exact hj
        have hTA := HRR.out.alloc (.cells #[.int .i64 1, .int .i64 i, .int .i64 j, .bool yes] 39)
        obtain ⟨_, r1, _, _⟩ := hTA.row.at hi'
        obtain ⟨_, r2, _, _⟩ := hTA.row.at hj'
        rw [e1] at r1
        rw [e2] at r2
        rw [← hst] at hTA
        have m0 : (wr.alloc (.cells #[.int .i64 1, .int .i64 i, .int .i64 j, .bool yes] 39)).cell? ⟨wr.heap.size, 0, none⟩ = some (.int .i64 1) := by simp
        have m1 : (wr.alloc (.cells #[.int .i64 1, .int .i64 i, .int .i64 j, .bool yes] 39)).cell? ⟨wr.heap.size, 1, none⟩ = some (.int .i64 i) := by simp
        have m2 : (wr.alloc (.cells #[.int .i64 1, .int .i64 i, .int .i64 j, .bool yes] 39)).cell? ⟨wr.heap.size, 2, none⟩ = some (.int .i64 j) := by simp
        have m3 : (wr.alloc (.cells #[.int .i64 1, .int .i64 i, .int .i64 j, .bool yes] 39)).cell? ⟨wr.heap.size, 3, none⟩ = some (.bool yes) := by simp
        have hcb : wr.heap.size ≠ w4.heap.size := by have := HRR.out.bools.1; omega
        clear hC hst e1 e2 hi' hj'
        cases yes with
        | true =>
          obtain ⟨f1, f2, f3, f4, f5, f6, f7, f8⟩ := ix_facts M t u S hS hM60 ht hu
          have HKS := Lib.hid (hKS (t * M + u) (by simp [ix]))
          have HSET := Lib.hid (hTA.set (t * M + u) f6 true)
          obtain ⟨cc, fc⟩ := hTA.bools.2 _ f6
          go_upto_region 14 with fail
          clear hTA hKS f5 f6
          generalize wr.alloc (.cells #[.int .i64 1, .int .i64 i, .int .i64 j, .bool true] 39) = wq at r1 r2 m0 m1 m2 m3 HSET cc fc ⊢
          clear y1 y2 y3 y4 HRR hg4 HKN
          generalize wr.heap.size = cb at hcb m0 m1 m2 m3 ⊢
          go_region
          all_goals
            go_wp2
            go_roundg (L4 - (q + 1))
            case measure => omega
            case rel => exact ⟨q + 1, _, by go_num, by omega, Nat.le_refl _, (show Hid _ from HSET.out.drewN 1), HKS⟩
        | false =>
          obtain ⟨f1, f2, f3, f4, f5, f6, f7, f8⟩ := ix_facts M u t S hS hM60 hu ht
          have HKS := Lib.hid (hKS (u * M + t) (by simp [ix]))
          have HSET := Lib.hid (hTA.set (u * M + t) f6 true)
          obtain ⟨cc, fc⟩ := hTA.bools.2 _ f6
          go_upto_region 16 with fail
          clear hTA hKS f5 f6
          generalize wr.alloc (.cells #[.int .i64 1, .int .i64 i, .int .i64 j, .bool false] 39) = wq at r1 r2 m0 m1 m2 m3 HSET cc fc ⊢
          clear y1 y2 y3 y4 HRR hg4 HKN
          generalize wr.heap.size = cb at hcb m0 m1 m2 m3 ⊢
          go_region
          all_goals
            go_wp2
            go_roundg (L4 - (q + 1))
            case measure => omega
            case rel => exact ⟨q + 1, _, by go_num, by omega, Nat.le_refl _, (show Hid _ from HSET.out.drewN 1), HKS⟩
      · have HK2 := Lib.hid (HKN.out.skip (by rw [hC]; show (2 : Int) ≠ 1; omega))
        rw [hC] at y1 y2 y3 y4
        rw [HMM.out] at hi hj
        have HST := Lib.hid hst
        clear hC hst HKN
        have qa : (i : Int) < (M : Int) := by omega
        have qb : (j : Int) < (M : Int) := by omega
        have hTA := HRR.out.alloc (.cells #[.int .i64 2, .int .i64 i, .int .i64 j, .bool false] 39)
        have m0 : (wr.alloc (.cells #[.int .i64 2, .int .i64 i, .int .i64 j, .bool false] 39)).cell? ⟨wr.heap.size, 0, none⟩ = some (.int .i64 2) := by simp
        have m1 : (wr.alloc (.cells #[.int .i64 2, .int .i64 i, .int .i64 j, .bool false] 39)).cell? ⟨wr.heap.size, 1, none⟩ = some (.int .i64 i) := by simp
        have m2 : (wr.alloc (.cells #[.int .i64 2, .int .i64 i, .int .i64 j, .bool false] 39)).cell? ⟨wr.heap.size, 2, none⟩ = some (.int .i64 j) := by simp
        have hcb : wr.heap.size ≠ b6 := by have := HRR.out.row.lt; omega
        go_upto_region 18 with fail
        generalize wr.alloc (.cells #[.int .i64 2, .int .i64 i, .int .i64 j, .bool false] 39) = wq at hTA m0 m1 m2 ⊢
        clear y1 y2 y3 y4 HRR hg4
        generalize wr.heap.size = cb at hcb m0 m1 m2 ⊢
        have hi' : i < (st q).size := by rw [HSZ.out]; exact hi
        have hj' : j < (st q).size := by rw [HSZ.out]; exact hj
        have hRA := hTA.row
        obtain ⟨x1, x2, z1, z2⟩ := hRA.at hi'
        obtain ⟨u1, u2, v1, v2⟩ := hRA.at hj'
        obtain ⟨a1, a2, hz1, hz2⟩ := hRA.stores (i := i) hj' (st q)[j]!
        have HW := Lib.hid (hTA.of (hRA.swapped hi' hj'))
        rw [← HST.out] at HW
        generalize (st q)[i]! = X at x1 x2 HW
        generalize (st q)[j]! = Y at u1 u2 hz1 hz2 HW
        clear hi' hj' hRA hTA HST
        go_region
        all_goals go_wp2
        go_roundg (L4 - (q + 1))
        case measure => omega
        case rel => exact ⟨q + 1, f, by go_num, by omega, Nat.le_refl _, (show Hid _ from HW.out.drewN 1), HK2⟩
    · have hltz : ¬ (q : Int) < (L4 : Int) := by omega
      obtain rfl : q = L4 := by omega
      obtain ⟨f0, hf0⟩ : ∃ f0, f0 = f := ⟨_, rfl⟩
      have HT0 := Lib.hid (And.intro HRR.out.bools HRR.out.below)
      have HAE2 := Lib.hid (fun g => HAE.out f g HKN.out)
      rw [← hf0] at HAE2 HT0
      clear HAE HAT HTG HSZ HKN HCS HRR hf0 hg
      go_wp2_with fail
      go_loopg [14] M (fun g vb wr => ∃ (b : Nat) (f : Nat → Bool), vb = .int .i64 b ∧ b ≤ M ∧ M - b ≤ g ∧ Hid (BoolsR wr w4.heap.size S f ∧ Below w4.heap.size w4 wr) ∧ Hid (War M b f0 f))
      case atStart => exact ⟨0, f0, rfl, by omega, by omega, HT0, War.start _ _⟩
      case round =>
        obtain ⟨b, f, rfl, hbM, hg, HRB, HWR⟩ := hrel
        clear HT0
        by_cases hltb : b < M
        · have hltbz : (b : Int) < (M : Int) := by omega
          go_wp2_with fail
          go_loopg [15] M (fun g va wr => ∃ (a : Nat) (h : Nat → Bool), va = .int .i64 a ∧ a ≤ M ∧ M - a ≤ g ∧ Hid (BoolsR wr w4.heap.size S h ∧ Below w4.heap.size w4 wr) ∧ Hid (Mid M (fun x y => f (x * M + y)) b a 0 h))
          case atStart => exact ⟨0, f, rfl, by omega, by omega, HRB, Mid.start _⟩
          case round =>
            obtain ⟨a, h, rfl, haM, hga, HRA, HMD⟩ := hrel
            clear HRB
            by_cases hlta : a < M
            · have hltaz : (a : Int) < (M : Int) := by omega
              go_wp2_with fail
              go_loopg [16] M (fun g vc wr => ∃ (c : Nat) (h : Nat → Bool), vc = .int .i64 c ∧ c ≤ M ∧ M - c ≤ g ∧ Hid (BoolsR wr w4.heap.size S h ∧ Below w4.heap.size w4 wr) ∧ Hid (Mid M (fun x y => f (x * M + y)) b a c h))
              case atStart => exact ⟨0, h, rfl, by omega, by omega, HRA, HMD⟩
              case round =>
                obtain ⟨c, h, rfl, hcM, hgc, HRC, HMC⟩ := hrel
                clear HRA HMD
                by_cases hltc : c < M
                · have hltcz : (c : Int) < (M : Int) := by omega
                  obtain ⟨f1, f2, f3, f4, f5, f6, f7, f8⟩ := ix_facts M a b S hS hM60 hlta hltb
                  obtain ⟨cab, _⟩ := HRC.out.1.2 _ f6
                  have hab : h (a * M + b) = f (a * M + b) := HMC.out.col hlta hltb
                  rw [hab] at cab
                  cases hv : f (a * M + b) with
                  | false =>
                    rw [hv] at cab
                    have HMN := Lib.hid (HMC.out.none hv)
                    go_wp2_with fail
                    go_roundg (M - (a + 1))
                    case measure => omega
                    case rel => exact ⟨a + 1, h, by go_num, by omega, Nat.le_refl _, HRC, HMN⟩
                  | true =>
                    rw [hv] at cab
                    obtain ⟨g1, g2, g3, g4', g5, g6, g7, g8⟩ := ix_facts M a c S hS hM60 hlta hltc
                    obtain ⟨k1, k2, k3, k4, k5, k6, k7, k8⟩ := ix_facts M b c S hS hM60 hltb hltc
                    obtain ⟨cac, fac⟩ := HRC.out.1.2 _ g6
                    obtain ⟨cbc, _⟩ := HRC.out.1.2 _ k6
                    have hMS := HMC.out.step hlta hltb hltc hv
                    have HMS := Lib.hid hMS
                    have HST := Lib.hid (fun v => And.intro (HRC.out.1.set (a * M + c) g6 v) (HRC.out.2.setCell (p := ⟨w4.heap.size, (a * M + c), none⟩) (Nat.le_refl _) (.bool v)))
                    clear hMS hab f5 f6 g5 g6 k5 k6 hv
                    cases h1 : h (a * M + c) with
                    | true =>
                      rw [h1] at cac
                      rw [h1, Bool.true_or] at HMS
                      go_wp2_with fail
                      go_roundg (M - (c + 1))
                      case measure => omega
                      case rel => exact ⟨c + 1, _, by go_num, by omega, Nat.le_refl _, (show Hid _ from HST.out true), HMS⟩
                    | false =>
                      rw [h1] at cac
                      rw [h1, Bool.false_or] at HMS
                      generalize h (b * M + c) = v at cbc HMS
                      go_wp2_with fail
                      go_roundg (M - (c + 1))
                      case measure => omega
                      case rel => exact ⟨c + 1, _, by go_num, by omega, Nat.le_refl _, (show Hid _ from HST.out v), HMS⟩
                · have hltcz : ¬ (c : Int) < (M : Int) := by omega
                  obtain rfl : c = M := by omega
                  have HMN := Lib.hid HMC.out.row
                  go_wp2_with fail
                  go_roundg (c - (a + 1))
                  case measure => omega
                  case rel => exact ⟨a + 1, h, by go_num, by omega, Nat.le_refl _, HRC, HMN⟩
            · have hltaz : ¬ (a : Int) < (M : Int) := by omega
              obtain rfl : a = M := by omega
              have HWN := Lib.hid (HWR.out.round hltb HMD.out)
              go_wp2_with fail
              go_roundg (a - (b + 1))
              case measure => omega
              case rel => exact ⟨b + 1, h, by go_num, by omega, Nat.le_refl _, HRA, HWN⟩
        · have hltbz : ¬ (b : Int) < (M : Int) := by omega
          obtain rfl : b = M := by omega
          have HFI := Lib.hid (HAE2.out f HWR.out)
          have HIT2 := Lib.hid (HIT.out.below HRB.out.2)
          clear HAE2 HWR HIT hg
          go_wp2_with fail
          obtain ⟨wf, hwf⟩ : ∃ wf, wf = wr := ⟨_, rfl⟩
          subst hwf
          go_loopg [17] b (fun g vi wr => ∃ (i : Nat), vi = .int .i64 i ∧ 1 ≤ i ∧ (i ≤ b ∨ i ≤ 1) ∧ b - i ≤ g ∧ Hid (Below wf.heap.size wf wr))
          case atStart => exact ⟨1, rfl, by omega, by omega, by omega, Below.refl _ _⟩
          case round =>
            obtain ⟨i, rfl, hi1, hib, hgi, HRI⟩ := hrel
            by_cases hlti : i < b
            · have hltiz : (i : Int) < (b : Int) := by omega
              obtain ⟨p, rfl⟩ : ∃ p, i = p + 1 := ⟨i - 1, by omega⟩
              obtain ⟨x, y, hx, hy, ex, ey, hf⟩ := HFI.out p hlti
              obtain ⟨_, r1⟩ := (HIT2.out.below HRI.out).2.2 p (by omega)
              obtain ⟨_, r2⟩ := (HIT2.out.below HRI.out).2.2 (p + 1) hlti
              rw [ex] at r1
              rw [ey] at r2
              simp only [Nat.zero_add] at r1 r2
              obtain ⟨f1, f2, f3, f4, f5, f6, f7, f8⟩ := ix_facts b x y S hS hM60 hx hy
              obtain ⟨cxy, _⟩ := (HRB.out.1.below HRI.out).2 _ f6
              rw [hf] at cxy
              have pz : (p : Int) < (b : Int) := by omega
              have hwp : IntKind.i64.wrap (p : Int) = (p : Int) := by rw [IntKind.wrap_i64]; omega
              have p0 : (0 : Int) ≤ (p : Int) + 1 := by omega
              have e0 : ((p : Int) + 1).toNat = p + 1 := by omega
              have xz : (x : Int) < (b : Int) := by omega
              have yz : (y : Int) < (b : Int) := by omega
              clear ex ey hf f5 f6
              go_upto_region 33 with fail
              go_quiet (fail)
              go_wp2_with fail
              go_roundg (b - (p + 1 + 1))
              case measure => omega
              case rel => exact ⟨p + 1 + 1, by go_num, by omega, by omega, Nat.le_refl _, (show Hid _ from by have h := HRI.out; exact ⟨h.os, h.tape, h.output, h.size, h.block⟩)⟩
            · have hltiz : ¬ (i : Int) < (b : Int) := by omega
              go_wp2_with fail
              go_ret
              exact ⟨by first | rfl | simp, HBW.out.trans ((HRB.out.2.trans (HRI.out.mono HRB.out.2.size)).mono HBW.out.size)⟩

theorem FnAskedEnough_said {A B : Option Addr} {n c m d : Nat} {zs ks : List Int} (w : World) (hz : IntsR w A n zs) (hnc : n ≤ c) (hc : c ≤ maxLen) (hk : IntsR w B m ks) (hmd : m ≤ d) (hd : d ≤ maxLen) :
    Calls Try.prog 5 #[.slice A n c, .slice B m d] w fun e w' => e = .returned (.bool true) ∧ Below w.heap.size w w' :=
  FnAskedEnough_walk A B n c m d zs ks w hz hk (Nat.le_trans hnc hc) hnc (Nat.le_trans hmd hd) hmd
end Go.Proofs.Ytlekkpjghamhcaa
