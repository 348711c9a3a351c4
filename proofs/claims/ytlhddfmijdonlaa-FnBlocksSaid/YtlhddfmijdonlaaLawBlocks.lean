/- Walks: laws.FnBlocks returns true. -/
import Derived.Test.YtlhddfmijdonlaaHelpG
namespace Go.Proofs.Ytlhddfmijdonlaa
open Go.RowKit Go.Sort Go.Lib

theorem ItemsR.takeI {w : World} {b o m : Nat} {xs : List It} (h : ItemsR w b o m xs) (ct : Nat) (hc : ct ≤ m) : ItemsR w b o ct (xs.take ct) := by
  refine ⟨by rw [List.length_take, h.1]; omega, h.2.1, fun i hi => ?_⟩
  have := h.2.2 i (by omega)
  rw [List.getD_eq_getElem?_getD, List.getElem?_take_of_lt hi, ← List.getD_eq_getElem?_getD]
  exact this
theorem ItemsR.dropI {w : World} {b ct r : Nat} {xs : List It} (h : ItemsR w b 0 (ct + r) xs) : ItemsR w b (ct * 2) r (xs.drop ct) := by
  refine ⟨by rw [List.length_drop, h.1]; omega, h.2.1, fun i hi => ?_⟩
  have := h.2.2 (ct + i) (by omega)
  rw [List.getD_eq_getElem?_getD, List.getElem?_drop, ← List.getD_eq_getElem?_getD]
  rw [show 0 + (ct + i) * 2 = ct * 2 + i * 2 by omega] at this
  exact this

set_option maxHeartbeats 4000000 in
set_option maxRecDepth 100000 in
theorem FnBlocks_walk (A B : Option Addr) (n c m d : Nat) (zs ks : List Int) (cut : Int) (w : World) (hz : IntsR w A n zs) (hk : IntsR w B m ks) (hn : n ≤ maxLen) (hnc : n ≤ c) (hm : m ≤ maxLen) (hmd : m ≤ d) :
    Calls Try.prog 8 #[.slice A n c, .slice B m d, .int .i64 cut] w fun e w' => e = .returned (.bool true) ∧ Below w.heap.size w w' := by
  obtain ⟨rs, hrs⟩ : ∃ rs, zs.take 300 = rs := ⟨_, rfl⟩
  obtain ⟨k, hkk⟩ : ∃ k, rankKeys rs.length ks = k := ⟨_, rfl⟩
  have HC := Lib.hid (ranked_tab A B n c m d zs ks w hz hk hn hnc hm hmd rs k hrs hkk)
  have hz3 : rs.length ≤ 300 := by rw [← hrs, List.length_take]; omega
  have hkin : ∀ x ∈ k, 0 ≤ x ∧ x < (rs.length : Int) := by rw [← hkk]; exact rankKeys_in rs.length ks
  have hW := rank_weak rs (by omega)
  have hw : Weak (ltT (rs.length : Int) (rankT rs)) (· ∈ ents k) := hW.weak (ents_keys hkin)
  have hfin : ∀ ct, sorted (ltT (rs.length : Int) (rankT rs)) (sorted (ltT (rs.length : Int) (rankT rs)) ((ents k).take ct) ++ sorted (ltT (rs.length : Int) (rankT rs)) ((ents k).drop ct)) = sorted (ltT (rs.length : Int) (rankT rs)) (ents k) := fun ct => by
    have h1 : Weak (ltT (rs.length : Int) (rankT rs)) (· ∈ (ents k).take ct ++ (ents k).drop ct) := by rw [List.take_append_drop]; exact hw
    have h2 : ((ents k).take ct ++ (ents k).drop ct).Nodup := by rw [List.take_append_drop]; exact ents_nodup k
    have := sortedA_blocks h1 h2
    rw [List.take_append_drop] at this
    exact this
  have HF := Lib.hid hfin
  clear hz hk hn hnc hm hmd hrs hkk hkin hW hw hfin
  go_enter Try.func8, Try.ntmps8
  go_wp2_with fail
  refine HC.out.mono ?_
  rintro e w1 ⟨b1, c1, L, b2, c2, M, rfl, hM, hM3, hT, hL, hK, hb1⟩
  have HM := Lib.hid hM
  have HT := Lib.hid (TabB.made (rs.length : Int) c1 hT hL)
  have HK := Lib.hid (hK.alloc (.cells #[.int .i64 (rs.length : Int), .slice (some ⟨b1, 0, none⟩) L c1] 24))
  have HB := Lib.hid (hb1.alloc hb1.size (.cells #[.int .i64 (rs.length : Int), .slice (some ⟨b1, 0, none⟩) L c1] 24))
  clear hM hT hL hK hb1 HC
  by_cases h1 : cut < 0
  · go_wp2_with fail
    go_ret
    exact ⟨rfl, HB.out⟩
  by_cases h2 : (M : Int) < cut
  · go_wp2_with fail
    go_ret
    exact ⟨rfl, HB.out⟩
  obtain ⟨ct, rfl⟩ : ∃ ct : Nat, cut = ct := ⟨cut.toNat, by omega⟩
  obtain ⟨r, rfl⟩ : ∃ r, M = ct + r := ⟨M - ct, by omega⟩
  have h2' : ¬ ((ct : Int) + (r : Int)) < (ct : Int) := by omega
  have h3 : ¬ ((ct + r : Nat) : Int) < (ct : Int) := h2
  clear h1 h2
  go_wp2_with fail
  generalize w1.alloc (.cells #[.int .i64 (rs.length : Int), .slice (some ⟨b1, 0, none⟩) L c1] 24) = w2 at HT HK HB ⊢
  generalize w1.heap.size = tb at HT ⊢
  obtain ⟨s1, x0, x1, _, _⟩ := HT.out
  clear x0 x1 s1
  refine (entries_tab _ (ct + r) c2 k w2 HK.out (by omega)).mono ?_
  rintro e w3 ⟨b3, c3, rfl, hit3, hl3, hc3, hb3⟩
  have HL := Lib.hid hit3
  have HT3 := Lib.hid (HT.out.below hb3)
  have HB3 := Lib.hid (HB.out.trans (hb3.mono HB.out.size))
  obtain ⟨_, x0, x1, _, _⟩ := HT3.out
  clear hit3 hl3 hb3 HT HB HK
  go_wp2_with fail
  refine (roads_any _ _ L c1 (rankT rs) b3 0 (ct + r) c3 (ents k) w3 HT3.out.2.2.2.1 HT3.out.2.2.2.2 HL.out (by omega)).mono ?_
  rintro e w4 ⟨r0, q0, r1, q1, r2, q2, rfl, hrd, hb4⟩
  have hA := Box3.made (c0 := q0) (c1 := q1) (c2 := q2) hrd
  have hb3a := hb4.alloc hb4.size (.cells #[.slice (some ⟨r0, 0, none⟩) (ct + r) q0, .slice (some ⟨r1, 0, none⟩) (ct + r) q1, .slice (some ⟨r2, 0, none⟩) (ct + r) q2] 30)
  have HA := Lib.hid hA
  have HLA := Lib.hid (HL.out.below hb3a)
  have HTA := Lib.hid (HT3.out.below hb3a)
  have HBA := Lib.hid (HB3.out.trans (hb3a.mono HB3.out.size))
  clear hA hb3a hrd hb4 HL HT3 HB3 x0 x1
  go_wp2_with fail
  generalize w4.alloc (.cells #[.slice (some ⟨r0, 0, none⟩) (ct + r) q0, .slice (some ⟨r1, 0, none⟩) (ct + r) q1, .slice (some ⟨r2, 0, none⟩) (ct + r) q2] 30) = wa at HA HLA HTA HBA ⊢
  generalize w4.heap.size = ab at HA ⊢
  obtain ⟨_, y0, y1, _, _⟩ := HTA.out
  have hcl : ct ≤ c3 := by omega
  have hcz : (ct : Int) ≤ (c3 : Int) := by omega
  go_cut [11] (fun v wx => ∃ bx, v = .pointer (some ⟨bx, 0, none⟩) ∧ Hid (Box3 wx bx ct (sorted (ltT (rs.length : Int) (rankT rs)) ((ents k).take ct)) ∧ Below wa.heap.size wa wx))
  case first =>
    as_aux_lemma =>
      have na : tb ≠ wa.heap.size := Nat.ne_of_lt HTA.out.1
      have na' : wa.heap.size ≠ tb := na.symm
      have HTK := Lib.hid (HLA.out.takeI ct (by omega))
      go_region_held3 (fun w' => w'.cell? ⟨tb, 0, none⟩ = some (.int .i64 (rs.length : Int)) ∧ w'.cell? ⟨tb, 1, none⟩ = some (.slice (some ⟨b1, 0, none⟩) L c1)) (go_keep)
        (first
          | (go_at_call 14; refine (roads_any _ _ L c1 (rankT rs) b3 _ ct _ ((ents k).take ct) _ (HTA.out.below (by first | exact below_d _ | exact below_da _ _)).2.2.2.1 HTA.out.2.2.2.2 (HTK.out.below (by first | exact below_d _ | exact below_da _ _)) (by omega)).mono ?_; rintro e wc ⟨p0, d0, p1, d1, p2, d2, rfl, hrd, hbc⟩; have hbc' : Below wa.heap.size wa wc := (by first | exact (below_d _).trans (hbc.mono (below_d _).size) | exact (below_da _ _).trans (hbc.mono (below_da _ _).size)); have HRD := Lib.hid (And.intro hrd hbc'); (first | (have HZ := Lib.hid (z3d hbc)) | skip); (first | (obtain ⟨z0, z1, z2, g0, g1, g2, _⟩ := HZ.out) | skip); have HTC := Lib.hid (HTA.out.below hbc'); obtain ⟨_, k2, k3, _, _⟩ := HTC.out; clear hrd hbc hbc'))
      all_goals
        go_wp2_with fail
        go_meet
        first
          | exact ⟨_, rfl, Box3.made HRD.out.1, HRD.out.2.alloc HRD.out.2.size _⟩
          | exact ⟨_, rfl, Box3.stored HRD.out.1 HZ.out, below_stored HRD.out.2 (Nat.le_refl _)⟩
  case rest =>
    obtain ⟨bl, rfl, HCUT⟩ := hcut
    have HLX := Lib.hid HCUT.out.1
    have HA2 := Lib.hid (HA.out.below HCUT.out.2)
    have HL2 := Lib.hid (HLA.out.below HCUT.out.2)
    have HT2 := Lib.hid (HTA.out.below HCUT.out.2)
    have HB2 := Lib.hid (HBA.out.trans (HCUT.out.2.mono HBA.out.size))
    clear HCUT HA HLA HTA HBA y0 y1
    have HTA := Lib.hid HT2.out
    have HLA := Lib.hid HL2.out
    clear HT2 HL2
    generalize wc = wa at *
    obtain ⟨_, y0, y1, _, _⟩ := HTA.out
    go_wp2_with fail
    go_cut [12] (fun v wx => ∃ bx, v = .pointer (some ⟨bx, 0, none⟩) ∧ Hid (Box3 wx bx r (sorted (ltT (rs.length : Int) (rankT rs)) ((ents k).drop ct)) ∧ Below wa.heap.size wa wx))
    case first =>
      as_aux_lemma =>
        have na : tb ≠ wa.heap.size := Nat.ne_of_lt HTA.out.1
        have na' : wa.heap.size ≠ tb := na.symm
        by_cases hcc : c3 = ct
        · obtain rfl : r = 0 := by omega
          subst hcc
          have HDK := Lib.hid (show ItemsR wa b3 0 0 ((ents k).drop c3) from by
            have hl := HLA.out.1
            rw [List.drop_of_length_le (by omega)]
            exact ⟨rfl, HLA.out.2.1, fun i hi => absurd hi (by omega)⟩)
          go_region_held3 (fun w' => w'.cell? ⟨tb, 0, none⟩ = some (.int .i64 (rs.length : Int)) ∧ w'.cell? ⟨tb, 1, none⟩ = some (.slice (some ⟨b1, 0, none⟩) L c1)) (go_keep)
            (first
              | (go_at_call 14; refine (roads_any _ _ L c1 (rankT rs) b3 _ 0 _ ((ents k).drop c3) _ (HTA.out.below (by first | exact below_d _ | exact below_da _ _)).2.2.2.1 HTA.out.2.2.2.2 (HDK.out.below (by first | exact below_d _ | exact below_da _ _)) (by omega)).mono ?_; rintro e wc ⟨p0, d0, p1, d1, p2, d2, rfl, hrd, hbc⟩; have hbc' : Below wa.heap.size wa wc := (by first | exact (below_d _).trans (hbc.mono (below_d _).size) | exact (below_da _ _).trans (hbc.mono (below_da _ _).size)); have HRD := Lib.hid (And.intro hrd hbc'); (first | (have HZ := Lib.hid (z3d hbc)) | skip); (first | (obtain ⟨z0, z1, z2, g0, g1, g2, _⟩ := HZ.out) | skip); have HTC := Lib.hid (HTA.out.below hbc'); obtain ⟨_, k2, k3, _, _⟩ := HTC.out; clear hrd hbc hbc'))
          all_goals
            go_wp2_with fail
            go_meet
            first
              | exact ⟨_, rfl, Box3.made HRD.out.1, HRD.out.2.alloc HRD.out.2.size _⟩
              | exact ⟨_, rfl, Box3.stored HRD.out.1 HZ.out, below_stored HRD.out.2 (Nat.le_refl _)⟩

        · have hcc' : ¬ c3 = ct := hcc
          have hcc2 : ¬ ct = c3 := fun e => hcc e.symm
          have hsub : ct + r - ct = r := by omega
          have HDK := Lib.hid (HLA.out.dropI)
          go_region_held3 (fun w' => w'.cell? ⟨tb, 0, none⟩ = some (.int .i64 (rs.length : Int)) ∧ w'.cell? ⟨tb, 1, none⟩ = some (.slice (some ⟨b1, 0, none⟩) L c1)) (go_keep)
            (first
              | (go_at_call 14; refine (roads_any _ _ L c1 (rankT rs) b3 _ r _ ((ents k).drop ct) _ (HTA.out.below (by first | exact below_d _ | exact below_da _ _)).2.2.2.1 HTA.out.2.2.2.2 (HDK.out.below (by first | exact below_d _ | exact below_da _ _)) (by omega)).mono ?_; rintro e wc ⟨p0, d0, p1, d1, p2, d2, rfl, hrd, hbc⟩; have hbc' : Below wa.heap.size wa wc := (by first | exact (below_d _).trans (hbc.mono (below_d _).size) | exact (below_da _ _).trans (hbc.mono (below_da _ _).size)); have HRD := Lib.hid (And.intro hrd hbc'); (first | (have HZ := Lib.hid (z3d hbc)) | skip); (first | (obtain ⟨z0, z1, z2, g0, g1, g2, _⟩ := HZ.out) | skip); have HTC := Lib.hid (HTA.out.below hbc'); obtain ⟨_, k2, k3, _, _⟩ := HTC.out; clear hrd hbc hbc'))
          all_goals
            go_wp2_with fail
            go_meet
            first
              | exact ⟨_, rfl, Box3.made HRD.out.1, HRD.out.2.alloc HRD.out.2.size _⟩
              | exact ⟨_, rfl, Box3.stored HRD.out.1 HZ.out, below_stored HRD.out.2 (Nat.le_refl _)⟩

    case rest =>
      obtain ⟨br, rfl, HCUT⟩ := hcut
      have HRX := Lib.hid HCUT.out.1
      have HLX2 := Lib.hid (HLX.out.below HCUT.out.2)
      have HA3 := Lib.hid (HA2.out.below HCUT.out.2)
      have HT3 := Lib.hid (HTA.out.below HCUT.out.2)
      have HB3 := Lib.hid (HB2.out.trans (HCUT.out.2.mono HB2.out.size))
      have HFC := Lib.hid (HF.out ct)
      clear HCUT HLX HA2 HTA HLA HB2 y0 y1 HF
      generalize sorted (ltT (rs.length : Int) (rankT rs)) ((ents k).take ct) = SL at HLX2 HFC
      generalize sorted (ltT (rs.length : Int) (rankT rs)) ((ents k).drop ct) = SR at HRX HFC
      generalize sorted (ltT (rs.length : Int) (rankT rs)) (ents k) = SW at HA3 HFC
      go_wp2_with fail
      go_loopg [44] 3 (fun g vi wr => ∃ (i : Nat), vi = .int .i64 i ∧ i ≤ 3 ∧ 3 - i ≤ g ∧ Hid (Below wc.heap.size wc wr))
      case atStart => exact ⟨0, rfl, by omega, by omega, Below.refl _ _⟩
      case round =>
        obtain ⟨i, rfl, hi3, hg, HR⟩ := hrel
        by_cases hlt : i < 3
        · have hltz : (i : Int) < 3 := by omega
          obtain ⟨ba, ca, ya, hia⟩ := (HA3.out.below HR.out).at hlt
          obtain ⟨bL, cL, yl, hil⟩ := (HLX2.out.below HR.out).at hlt
          obtain ⟨bR, cR, yr, hir⟩ := (HRX.out.below HR.out).at hlt
          have HTR := Lib.hid (HT3.out.below HR.out)
          have hsa : ab < wr.heap.size := by obtain ⟨_, _, _, _, _, _, h, _⟩ := HA3.out.below HR.out; exact h
          have hsl : bl < wr.heap.size := by obtain ⟨_, _, _, _, _, _, h, _⟩ := HLX2.out.below HR.out; exact h
          have hsr : br < wr.heap.size := by obtain ⟨_, _, _, _, _, _, h, _⟩ := HRX.out.below HR.out; exact h
          have TR := Lib.hid (fun (W' : World) (hb : Below wr.heap.size wr W') => And.intro ((hb.cell (p := ⟨bl, i, none⟩) hsl).trans yl) (And.intro ((hb.cell (p := ⟨br, i, none⟩) hsr).trans yr) ((hb.cell (p := ⟨ab, i, none⟩) hsa).trans ya)))
          have HIA := Lib.hid hia
          have HIL := Lib.hid hil
          have HIR := Lib.hid hir
          clear hia hil hir hsa hsl hsr
          have own0 := OwnI.made wr.drew
          have HO := Lib.hid (And.intro (show 0 = ([] : List It).length from rfl) (show OwnI (wr.drew.alloc (.cells #[] 46)) wr.heap.size wr.heap.size 0 [] from own0))
          have HW := Lib.hid (HIL.out.below (below_da wr (.cells #[] 46)))
          clear own0
          go_upto_region 11 with fail
          go_region_held3 (fun w' => w'.cell? ⟨bl, i, none⟩ = some (.slice (some ⟨bL, 0, none⟩) ct cL) ∧ w'.cell? ⟨br, i, none⟩ = some (.slice (some ⟨bR, 0, none⟩) r cR)) (go_keep)
            (first
              | (refine step_appI rfl (.tmp 47) (.tmp 50) rfl wr.heap.size wr.heap.size 0 0 [] rfl HO.out bL 0 ct cL SL rfl HW.out (by omega) (by show wr.heap.size ≤ (wr.alloc _).heap.size; rw [World.size_alloc]; omega) ?_; intro b5 c5 w5 hown5 hgrow5; have HB5 := Lib.hid (show Below wr.heap.size wr w5 from below_app (below_da wr _) hgrow5.out (by show wr.heap.size ≤ (wr.drew.alloc _).heap.size; rw [World.size_alloc]; exact Nat.le_succ _) (Nat.le_refl _)); obtain ⟨k0, k1, k2⟩ := TR.out w5 HB5.out; have hs5 : wr.heap.size ≤ w5.heap.size := HB5.out.size; have HO5 := Lib.hid (show ct = SL.length ∧ OwnI w5 wr.heap.size b5 c5 SL from by have h := hown5.out; rw [List.nil_append, Nat.zero_add] at h; exact h); have HW5 := Lib.hid (HIR.out.below HB5.out))
              | (rw [Nat.zero_add]; refine step_appI rfl (.tmp 51) (.tmp 54) rfl wr.heap.size b5 c5 ct SL rfl HO5.out bR 0 r cR SR rfl HW5.out (by omega) hs5 ?_; intro b6 c6 w6 hown6 hgrow6; have HB6 := Lib.hid (show Below wr.heap.size wr w6 from below_app HB5.out hgrow6.out hs5 (HO5.out.2.lt.1)); obtain ⟨k3, k4, k5⟩ := TR.out w6 HB6.out)
              | (refine step_appI rfl (.tmp 51) (.tmp 54) rfl wr.heap.size b5 c5 ct SL rfl HO5.out bR 0 r cR SR rfl HW5.out (by omega) hs5 ?_; intro b6 c6 w6 hown6 hgrow6; have HB6 := Lib.hid (show Below wr.heap.size wr w6 from below_app HB5.out hgrow6.out hs5 (HO5.out.2.lt.1)); obtain ⟨k3, k4, k5⟩ := TR.out w6 HB6.out))
          go_wp2_with fail
          have HJ := Lib.hid (show ItemsR w6 b6 0 (ct + r) (SL ++ SR) from by have h := hown6.out; have hi := h.2.items; rw [← h.1] at hi; exact hi)
          have HT6 := Lib.hid (HTR.out.below HB6.out)
          obtain ⟨_, t0, t1, _, _⟩ := HT6.out
          have ya6 : w6.cell? ⟨ab, i, none⟩ = some (.slice (some ⟨ba, 0, none⟩) (ct + r) ca) := k5
          have HIA6 := Lib.hid (HIA.out.below HB6.out)
          have hsa : ab < w6.heap.size := by obtain ⟨_, _, _, _, _, _, h, _⟩ := (HA3.out.below HR.out).below HB6.out; exact h
          have TA := Lib.hid (fun (W' : World) (hb : Below w6.heap.size w6 W') => (hb.cell (p := ⟨ab, i, none⟩) hsa).trans ya6)
          clear hown5 hgrow5 hown6 hgrow6 k0 k1 k2 k3 k4 k5 ya yl yr HO HW HO5 HW5 TR HB5 hsa hs5
          go_region_held3 (fun w' => w'.cell? ⟨ab, i, none⟩ = some (.slice (some ⟨ba, 0, none⟩) (ct + r) ca) ∧ w'.cell? ⟨tb, 0, none⟩ = some (.int .i64 (rs.length : Int)) ∧ w'.cell? ⟨tb, 1, none⟩ = some (.slice (some ⟨b1, 0, none⟩) L c1)) (go_keep)
            (first
              | (go_at_call 14; refine (roads_any _ _ L c1 (rankT rs) b6 0 (ct + r) c6 (SL ++ SR) _ (by exact HT6.out.2.2.2.1) HT6.out.2.2.2.2 (by exact HJ.out) (by omega)).mono ?_; rintro e wx ⟨x0, y0, x1, y1, x2, y2, rfl, hrd, hbx⟩; rw [HFC.out] at hrd; have HRX := Lib.hid (And.intro hrd (below_drew hbx)); have k0 := TA.out wx HRX.out.2; obtain ⟨_, k2, k3, _, _⟩ := HT6.out.below HRX.out.2; obtain ⟨bp, cp, hpi, hix⟩ := index3_slice x0 y0 x1 y1 x2 y2 (ct + r) i hlt; have HPI := Lib.hid (hpi wx _ HRX.out.1); clear hrd hbx hpi)
              | (go_at_call 16; refine (same_eq bp 0 (ct + r) cp ba 0 ca SW _ HPI.out (HIA6.out.below HRX.out.2) (by omega)).mono ?_; rintro e wy ⟨rfl, qq, rfl⟩; have k4 : (wx.drewN qq).cell? ⟨ab, i, none⟩ = some (.slice (some ⟨ba, 0, none⟩) (ct + r) ca) := k0; have k6 : (wx.drewN qq).cell? ⟨tb, 0, none⟩ = some (.int .i64 (rs.length : Int)) := k2; have k7 : (wx.drewN qq).cell? ⟨tb, 1, none⟩ = some (.slice (some ⟨b1, 0, none⟩) L c1) := k3))
          go_wp2_with fail
          go_roundg (3 - (i + 1))
          case measure => omega
          case rel => exact ⟨i + 1, by go_num, by omega, Nat.le_refl _, (show Hid _ from below_drewN ((HR.out.trans (HB6.out.mono HR.out.size)).trans (HRX.out.2.mono (Nat.le_trans HR.out.size HB6.out.size))) _)⟩
        · have hltz : ¬ (i : Int) < 3 := by omega
          go_wp2_with fail
          go_ret
          exact ⟨rfl, HB3.out.trans (HR.out.mono HB3.out.size)⟩

theorem FnBlocks_said {A B : Option Addr} {n c m d : Nat} {zs ks : List Int} (w : World) (hz : IntsR w A n zs) (hnc : n ≤ c) (hc : c ≤ maxLen) (hk : IntsR w B m ks) (hmd : m ≤ d) (hd : d ≤ maxLen) (cut : Int) (_w : (Lit.int .i64 cut).wf = true) :
    Calls Try.prog 8 #[.slice A n c, .slice B m d, .int .i64 cut] w fun e w' => e = .returned (.bool true) ∧ Below w.heap.size w w' :=
  FnBlocks_walk A B n c m d zs ks cut w hz hk (Nat.le_trans hnc hc) hnc (Nat.le_trans hmd hd) hmd
end Go.Proofs.Ytlhddfmijdonlaa
