/- Walks: laws.FnTurned returns true. -/
import Derived.Test.YtlhddfmijdonlaaHelpG
namespace Go.Proofs.Ytlhddfmijdonlaa
open Go.RowKit Go.Sort Go.Lib

theorem rank_turned (zs : List Int) (rs us : List Int) (hrs : (zs.map fun r : Int => r.tmod 1000).take 300 = rs) (hus : ((zs.map fun r : Int => r.tmod 1000).map fun r : Int => -(r.tmod 1000 + 1)).take 300 = us) :
    us.length = rs.length ∧ ∀ x y : It, 0 ≤ x.1 → x.1 < (rs.length : Int) → 0 ≤ y.1 → y.1 < (rs.length : Int) → ltT (us.length : Int) (rankT us) x y = ltT (rs.length : Int) (rankT rs) y x := by
  have hu : us = rs.map fun r : Int => -(r.tmod 1000 + 1) := by rw [← hus, ← hrs, List.map_take]
  have hl : us.length = rs.length := by rw [hu, List.length_map]
  have h3 : rs.length ≤ 300 := by rw [← hrs, List.length_take]; omega
  have hv : ∀ a : Nat, a < rs.length → us.getD a 0 = -(rs.getD a 0 + 1) := fun a ha => by
    rw [getD_at us 0 a (by omega), getD_at rs 0 a ha]
    have e1 : us[a]'(by omega) = -((rs[a]'ha).tmod 1000 + 1) := by simp [hu]
    have e2 : (rs[a]'ha).tmod 1000 = rs[a]'ha := by
      have : ∃ z : Int, rs[a]'ha = z.tmod 1000 := by
        subst hrs
        rw [List.getElem_take, List.getElem_map]
        exact ⟨_, rfl⟩
      obtain ⟨z, hz⟩ := this
      rw [hz]
      exact Int.tmod_tmod z 1000
    rw [e1, e2]
  refine ⟨hl, fun x y h1 h2 h3' h4 => ?_⟩
  have k1 := ltT_iff (us.length : Int) (rankT us) x y
  have k2 := ltT_iff (rs.length : Int) (rankT rs) y x
  rw [sg_rank us (by omega) x.1 y.1 ⟨h1, by rw [hl]; exact h2⟩ ⟨h3', by rw [hl]; exact h4⟩, hv x.1.toNat (by omega), hv y.1.toNat (by omega)] at k1
  rw [sg_rank rs (by omega) y.1 x.1 ⟨h3', h4⟩ ⟨h1, h2⟩] at k2
  have e : cmpS (-(rs.getD x.1.toNat 0 + 1)) (-(rs.getD y.1.toNat 0 + 1)) = cmpS (rs.getD y.1.toNat 0) (rs.getD x.1.toNat 0) := by
    unfold cmpS
    generalize rs.getD x.1.toNat 0 = p
    generalize rs.getD y.1.toNat 0 = q
    split <;> split <;> (try split) <;> (try split) <;> omega
  rw [e] at k1
  exact Bool.eq_iff_iff.2 (k1.trans k2.symm)

set_option maxHeartbeats 8000000 in
set_option maxRecDepth 100000 in
theorem FnTurned_walk (A B : Option Addr) (n c m d : Nat) (zs ks : List Int) (w : World) (hz : IntsR w A n zs) (hk : IntsR w B m ks) (hn : n ≤ 17592186044415) (hm : m ≤ maxLen) (hmd : m ≤ d) :
    Calls Try.prog 3 #[.slice A n c, .slice B m d] w fun e w' => e = .returned (.bool true) ∧ Below w.heap.size w w' := by
  obtain ⟨zm, hzm⟩ : ∃ zm, (zs.map fun r : Int => r.tmod 1000) = zm := ⟨_, rfl⟩
  obtain ⟨zn, hzn⟩ : ∃ zn, (zm.map fun r : Int => -(r.tmod 1000 + 1)) = zn := ⟨_, rfl⟩
  obtain ⟨rs, hrs⟩ : ∃ rs, zm.take 300 = rs := ⟨_, rfl⟩
  obtain ⟨us, hus⟩ : ∃ us, zn.take 300 = us := ⟨_, rfl⟩
  obtain ⟨k, hkk⟩ : ∃ k, rankKeys rs.length ks = k := ⟨_, rfl⟩
  obtain ⟨hul, hlt⟩ := rank_turned zs rs us (by rw [hzm]; exact hrs) (by rw [hzm, hzn]; exact hus)
  have hku : rankKeys us.length ks = k := by rw [hul]; exact hkk
  have hz3 : rs.length ≤ 300 := by rw [← hrs, List.length_take]; omega
  have hkin : ∀ x ∈ k, 0 ≤ x ∧ x < (rs.length : Int) := by rw [← hkk]; exact rankKeys_in rs.length ks
  have hw : Weak (ltT (rs.length : Int) (rankT rs)) (· ∈ ents k) := (rank_weak rs (by omega)).weak (ents_keys hkin)
  have hkin' : ∀ x ∈ k, 0 ≤ x ∧ x < (us.length : Int) := by rw [hul]; exact hkin
  have hw' : Weak (ltT (us.length : Int) (rankT us)) (· ∈ ents k) := (rank_weak us (by omega)).weak (ents_keys hkin')
  have hfin : (sorted (ltT (us.length : Int) (rankT us)) (ents k).reverse).reverse = sorted (ltT (rs.length : Int) (rankT rs)) (ents k) :=
    sortedA_turned hw hw' (ents_nodup k) (fun x y hx hy => hlt x y (ents_keys hkin x hx).1 (ents_keys hkin x hx).2 (ents_keys hkin y hy).1 (ents_keys hkin y hy).2)
  have hnm : n ≤ maxLen := by unfold maxLen; omega
  have H0 := Lib.hid (And.intro hz (And.intro hk (And.intro hnm (And.intro hm hmd))))
  have HX := Lib.hid (And.intro hrs (And.intro hus (And.intro hkk hku)))
  have HZ := Lib.hid (And.intro hzm hzn)
  have HF := Lib.hid hfin
  clear hz hk hm hmd hnm hrs hus hkk hku hkin hkin' hw hw' hfin hzm hzn hul hlt
  go_enter Try.func3, Try.ntmps3
  go_wp2_with fail
  refine (modest_any A n c zs w H0.out.1 hn).mono ?_
  rintro e w1 ⟨b1, c1, rfl, hi1, hc1, hb1⟩
  rw [HZ.out.1] at hi1
  have H1 := Lib.hid (And.intro hi1 (And.intro hc1 hb1))
  clear hi1 hc1 hb1
  go_wp2_with fail
  refine (ranked_tab _ B n c1 m d zm ks w1 H1.out.1 (H0.out.2.1.below H1.out.2.2) H0.out.2.2.1 H1.out.2.1 H0.out.2.2.2.1 H0.out.2.2.2.2 rs k HX.out.1 HX.out.2.2.1).mono ?_
  rintro e w2 ⟨b2, c2, L, b3, c3, M, rfl, hM, hM3, hT, hL, hK, hb2⟩
  have HM := Lib.hid hM
  have HT := Lib.hid (TabB.made (rs.length : Int) c2 hT hL)
  have HK := Lib.hid (hK.alloc (.cells #[.int .i64 (rs.length : Int), .slice (some ⟨b2, 0, none⟩) L c2] 24))
  have HB := Lib.hid ((H1.out.2.2.trans (hb2.mono H1.out.2.2.size)).alloc (Nat.le_trans H1.out.2.2.size hb2.size) (.cells #[.int .i64 (rs.length : Int), .slice (some ⟨b2, 0, none⟩) L c2] 24))
  clear hM hT hL hK hb2 H1
  go_wp2_with fail
  generalize w2.alloc (.cells #[.int .i64 (rs.length : Int), .slice (some ⟨b2, 0, none⟩) L c2] 24) = w3 at HT HK HB ⊢
  generalize w2.heap.size = tb at HT ⊢
  refine (modest_any A n c zs w3 (H0.out.1.below HB.out) hn).mono ?_
  rintro e w4 ⟨b4, c4, rfl, hi4, hc4, hb4⟩
  rw [HZ.out.1] at hi4
  have H4 := Lib.hid (And.intro hi4 hb4)
  clear hi4 hb4 hc4
  go_wp2_with fail
  refine (negated_any _ n c4 zm w4 H4.out.1 hn).mono ?_
  rintro e w5 ⟨b5, c5, rfl, hi5, hc5, hb5⟩
  rw [HZ.out.2] at hi5
  have H5 := Lib.hid (And.intro hi5 (And.intro hc5 (H4.out.2.trans (hb5.mono H4.out.2.size))))
  clear hi5 hb5 hc5 H4
  have HB5 := Lib.hid (HB.out.trans (H5.out.2.2.mono HB.out.size))
  go_wp2_with fail
  refine (ranked_tab _ B n c5 m d zn ks w5 H5.out.1 (H0.out.2.1.below HB5.out) H0.out.2.2.1 H5.out.2.1 H0.out.2.2.2.1 H0.out.2.2.2.2 us k HX.out.2.1 HX.out.2.2.2).mono ?_
  rintro e w6 ⟨b6, c6, L', b7, c7, M', rfl, hM', hM3', hT', hL', hK', hb6⟩
  have hb36 : Below w3.heap.size w3 w6 := H5.out.2.2.trans (hb6.mono H5.out.2.2.size)
  have hT7 := TabB.made (us.length : Int) c6 hT' hL'
  have hb37 := hb36.alloc hb36.size (.cells #[.int .i64 (us.length : Int), .slice (some ⟨b6, 0, none⟩) L' c6] 24)
  have HU := Lib.hid hT7
  have HT7 := Lib.hid (HT.out.below hb37)
  have HK7 := Lib.hid (HK.out.below hb37)
  have HB7 := Lib.hid (HB.out.trans (hb37.mono HB.out.size))
  clear hM' hM3' hT' hL' hK' hb6 hb36 hT7 hb37 H5 HB5 HT HK HB HX HZ H0 hn
  go_wp2_with fail
  generalize w6.alloc (.cells #[.int .i64 (us.length : Int), .slice (some ⟨b6, 0, none⟩) L' c6] 24) = w7 at HU HT7 HK7 HB7 ⊢
  generalize w6.heap.size = ub at HU ⊢
  refine (entries_tab _ M c3 k w7 HK7.out (by omega)).mono ?_
  rintro e w8 ⟨b8, c8, rfl, hit8, hl8, hc8, hb8⟩
  have HL := Lib.hid hit8
  have HT8 := Lib.hid (HT7.out.below hb8)
  have HU8 := Lib.hid (HU.out.below hb8)
  have HB8 := Lib.hid (HB7.out.trans (hb8.mono HB7.out.size))
  obtain ⟨_, x0, x1, _, _⟩ := HT8.out
  clear hit8 hl8 hc8 hb8 HT7 HU HB7 HK7
  go_wp2_with fail
  refine (roads_any _ _ L c2 (rankT rs) b8 0 M c8 (ents k) w8 HT8.out.2.2.2.1 HT8.out.2.2.2.2 HL.out (by omega)).mono ?_
  rintro e w9 ⟨r0, q0, r1, q1, r2, q2, rfl, hrd, hb9⟩
  have hA := Box3.made (c0 := q0) (c1 := q1) (c2 := q2) hrd
  have hb8a := hb9.alloc hb9.size (.cells #[.slice (some ⟨r0, 0, none⟩) M q0, .slice (some ⟨r1, 0, none⟩) M q1, .slice (some ⟨r2, 0, none⟩) M q2] 30)
  have HA := Lib.hid hA
  have HLA := Lib.hid (HL.out.below hb8a)
  have HUA := Lib.hid (HU8.out.below hb8a)
  have HBA := Lib.hid (HB8.out.trans (hb8a.mono HB8.out.size))
  clear hA hb8a hrd hb9 HL HU8 HB8 HT8 x0 x1
  go_wp2_with fail
  generalize w9.alloc (.cells #[.slice (some ⟨r0, 0, none⟩) M q0, .slice (some ⟨r1, 0, none⟩) M q1, .slice (some ⟨r2, 0, none⟩) M q2] 30) = wa at HA HLA HUA HBA ⊢
  generalize w9.heap.size = ab at HA ⊢
  obtain ⟨_, y0, y1, _, _⟩ := HUA.out
  go_cut [11] (fun v wx => ∃ bx, v = .pointer (some ⟨bx, 0, none⟩) ∧ Hid (Box3 wx bx M (sorted (ltT (us.length : Int) (rankT us)) (ents k).reverse) ∧ Below wa.heap.size wa wx))
  case first =>
    as_aux_lemma =>
      have na : ub ≠ wa.heap.size := Nat.ne_of_lt HUA.out.1
      have na' : wa.heap.size ≠ ub := na.symm
      go_region_held3 (fun w' => w'.cell? ⟨ub, 0, none⟩ = some (.int .i64 (us.length : Int)) ∧ w'.cell? ⟨ub, 1, none⟩ = some (.slice (some ⟨b6, 0, none⟩) L' c6)) (go_keep)
        (first
          | (go_at_call 15; refine (turned_any b8 M c8 (ents k) _ (HLA.out.below (by first | exact below_d _ | exact below_da _ _)) (by omega)).mono ?_; rintro e wb ⟨bb, cb, rfl, hitb, hbb⟩; have HIB := Lib.hid (And.intro hitb (show Below wa.heap.size wa wb from by first | exact (below_d _).trans (hbb.mono (below_d _).size) | exact (below_da _ _).trans (hbb.mono (below_da _ _).size))); (first | (have HZ := Lib.hid (z3d hbb)) | skip); have HUB := Lib.hid (HUA.out.below HIB.out.2); obtain ⟨_, k0, k1, _, _⟩ := HUB.out; have nb : ub ≠ wb.heap.size := Nat.ne_of_lt HUB.out.1; have nb' : wb.heap.size ≠ ub := nb.symm; clear hitb hbb)
          | (go_at_call 14; refine (roads_any _ _ L' c6 (rankT us) bb 0 M cb (ents k).reverse _ (HUB.out.below (by first | exact Below.refl _ _ | exact below_a _ _)).2.2.2.1 HUB.out.2.2.2.2 (HIB.out.1.below (by first | exact Below.refl _ _ | exact below_a _ _)) (by omega)).mono ?_; rintro e wc ⟨p0, d0, p1, d1, p2, d2, rfl, hrd, hbc⟩; have hbc' : Below wb.heap.size wb wc := (by first | exact hbc | exact (below_a _ _).trans (hbc.mono (below_a _ _).size)); have HRD := Lib.hid (And.intro hrd (HIB.out.2.trans (hbc'.mono HIB.out.2.size))); (first | (have HZ := Lib.hid (z3 hbc)) | (replace HZ := Lib.hid (HZ.out.below hbc')) | skip); (first | (obtain ⟨z0, z1, z2, g0, g1, g2, _⟩ := HZ.out) | skip); have HUC := Lib.hid (HUB.out.below hbc'); obtain ⟨_, k2, k3, _, _⟩ := HUC.out; clear hrd hbc hbc'))
      all_goals
        go_wp2_with fail
        go_meet
        first
          | exact ⟨_, rfl, Box3.made HRD.out.1, HRD.out.2.alloc HRD.out.2.size _⟩
          | exact ⟨_, rfl, Box3.stored HRD.out.1 HZ.out, below_stored HRD.out.2 (by first | exact Nat.le_refl _ | exact HIB.out.2.size)⟩
  case rest =>
    obtain ⟨bx, rfl, HCUT⟩ := hcut
    have HBX := Lib.hid HCUT.out.1
    have HAX := Lib.hid (HA.out.below HCUT.out.2)
    have HBD := Lib.hid (HBA.out.trans (HCUT.out.2.mono HBA.out.size))
    clear HCUT HA HUA HLA HBA y0 y1
    generalize sorted (ltT (us.length : Int) (rankT us)) (ents k).reverse = SU at HBX HF
    generalize sorted (ltT (rs.length : Int) (rankT rs)) (ents k) = SA at HAX HF
    go_wp2_with fail
    go_loopg [37] 3 (fun g vi wr => ∃ (i : Nat), vi = .int .i64 i ∧ i ≤ 3 ∧ 3 - i ≤ g ∧ Hid (Below wc.heap.size wc wr))
    case atStart => exact ⟨0, rfl, by omega, by omega, Below.refl _ _⟩
    case round =>
      obtain ⟨i, rfl, hi3, hg, HR⟩ := hrel
      by_cases hlt : i < 3
      · have hltz : (i : Int) < 3 := by omega
        have HA1 := Lib.hid (HAX.out.below HR.out)
        have HB1 := Lib.hid (HBX.out.below HR.out)
        obtain ⟨ba, ca, ya, hia⟩ := HA1.out.at hlt
        obtain ⟨bb, cb, yb, hib⟩ := HB1.out.at hlt
        have HIA := Lib.hid hia
        have HIB := Lib.hid hib
        have hsa : ab < wr.heap.size := by obtain ⟨_, _, _, _, _, _, h, _⟩ := HA1.out; exact h
        have hsb : bx < wr.heap.size := by obtain ⟨_, _, _, _, _, _, h, _⟩ := HB1.out; exact h
        have TR := Lib.hid (fun (W' : World) (hb : Below wr.heap.size wr W') => And.intro ((hb.cell (p := ⟨ab, i, none⟩) hsa).trans ya) ((hb.cell (p := ⟨bx, i, none⟩) hsb).trans yb))
        clear hia hib hsa hsb HA1 HB1
        go_upto_region 9 with fail
        go_region_held3 (fun w' => w'.cell? ⟨ab, i, none⟩ = some (.slice (some ⟨ba, 0, none⟩) M ca) ∧ w'.cell? ⟨bx, i, none⟩ = some (.slice (some ⟨bb, 0, none⟩) M cb)) (go_keep)
          (first
            | (go_at_call 15; refine (turned_any bb M cb SU _ (by exact HIB.out) (by omega)).mono ?_; rintro e we ⟨be, ce, rfl, hite, hbe⟩; have HIE := Lib.hid (And.intro hite (below_drew hbe)); rw [HF.out] at HIE; obtain ⟨k0, k1⟩ := TR.out we HIE.out.2; clear hite hbe)
            | (go_at_call 16; refine (same_eq be 0 M ce ba 0 ca SA _ HIE.out.1 (HIA.out.below HIE.out.2) (by omega)).mono ?_; rintro e wf ⟨rfl, qq, rfl⟩; have k2 : (we.drewN qq).cell? ⟨ab, i, none⟩ = some (.slice (some ⟨ba, 0, none⟩) M ca) := k0; have k3 : (we.drewN qq).cell? ⟨bx, i, none⟩ = some (.slice (some ⟨bb, 0, none⟩) M cb) := k1))
        go_wp2_with fail
        go_roundg (3 - (i + 1))
        case measure => omega
        case rel => exact ⟨i + 1, by go_num, by omega, Nat.le_refl _, (show Hid _ from below_drewN (HR.out.trans (HIE.out.2.mono HR.out.size)) _)⟩
      · have hltz : ¬ (i : Int) < 3 := by omega
        go_wp2_with fail
        go_ret
        exact ⟨rfl, HBD.out.trans (HR.out.mono HBD.out.size)⟩

theorem FnTurned_said {A B : Option Addr} {n c m d : Nat} {zs ks : List Int} (hs : n ≤ 17592186044415) (w : World) (hz : IntsR w A n zs) (_hnc : n ≤ c) (_hc : c ≤ maxLen) (hk : IntsR w B m ks) (hmd : m ≤ d) (hd : d ≤ maxLen) :
    Calls Try.prog 3 #[.slice A n c, .slice B m d] w fun e w' => e = .returned (.bool true) ∧ Below w.heap.size w w' :=
  FnTurned_walk A B n c m d zs ks w hz hk hs (Nat.le_trans hmd hd) hmd
end Go.Proofs.Ytlhddfmijdonlaa
