/- Walks: laws.FnStretched returns true. -/
import Derived.Test.YtdpomoengbpcaaaApart
import Derived.Deep.RegionHeld3
namespace Go.Proofs.Ytdpomoengbpcaaa
open Go.RowKit Go.Sort Go.Lib

theorem num_at (zs T : List Int) (g : Int → Int → Int) (hT : T.length = zs.length * zs.length) (hat : ∀ a b, a < zs.length → b < zs.length → T.getD (a * zs.length + b) 0 = g (zs.getD a 0) (zs.getD b 0)) (h3 : zs.length ≤ 1000) (a b : Int) :
    num (zs.length : Int) T a b = if 0 ≤ a ∧ a < (zs.length : Int) ∧ 0 ≤ b ∧ b < (zs.length : Int) then g (zs.getD a.toNat 0) (zs.getD b.toNat 0) else 0 := by
  unfold num
  by_cases h : 0 ≤ a ∧ a < (zs.length : Int) ∧ 0 ≤ b ∧ b < (zs.length : Int)
  · obtain ⟨a, rfl⟩ : ∃ n : Nat, a = n := ⟨a.toNat, by omega⟩
    obtain ⟨b, rfl⟩ : ∃ n : Nat, b = n := ⟨b.toNat, by omega⟩
    have ha : a < zs.length := by omega
    have hb : b < zs.length := by omega
    have hlt : a * zs.length + b < zs.length * zs.length := by
      have := Nat.mul_le_mul_right zs.length (show a + 1 ≤ zs.length from ha)
      rw [Nat.add_mul, Nat.one_mul] at this
      omega
    have e : (a : Int) * (zs.length : Int) + (b : Int) = ((a * zs.length + b : Nat) : Int) := by rw [Int.natCast_add, Int.natCast_mul]
    rw [if_pos h, e, if_neg (by rw [hT]; omega), Int.toNat_natCast, hat a b ha hb, Int.toNat_natCast, Int.toNat_natCast]
  · rw [if_neg h, if_pos (by omega)]
theorem ltT_apart (rs : List Int) (h3 : rs.length ≤ 1000) (tm : Int) (h1 : 1 ≤ tm) : ltT (rs.length : Int) (tabT (fun x y => (x - y) * tm) rs) = ltT (rs.length : Int) (rankT rs) := by
  funext x y
  unfold ltT
  rw [num_at rs _ _ (tabT_length _ rs) (fun a b ha hb => tabT_at _ rs a b ha hb) h3, num_at rs _ _ (rankT_length rs) (fun a b ha hb => rankT_at rs a b ha hb) h3]
  refine decide_eq_decide.2 ?_
  split
  · generalize rs.getD x.1.toNat 0 = p
    generalize rs.getD y.1.toNat 0 = q
    unfold cmpS
    constructor
    · intro h
      have hpq : p < q := by
        rcases Int.lt_or_le p q with h' | h'
        · exact h'
        · have := Int.mul_nonneg (show 0 ≤ p - q by omega) (show 0 ≤ tm by omega); omega
      rw [if_neg (by omega), if_pos hpq]; omega
    · intro h
      have hpq : p < q := by
        rcases Int.lt_or_le p q with h' | h'
        · exact h'
        · split at h
          · omega
          · split at h <;> omega
      have := Int.mul_lt_mul_of_pos_right (show p - q < 0 by omega) (show 0 < tm by omega)
      rw [Int.zero_mul] at this
      exact this
  · exact Iff.rfl

set_option maxHeartbeats 4000000 in
set_option maxRecDepth 100000 in
theorem FnStretched_walk (A B : Option Addr) (n c m d : Nat) (zs ks : List Int) (tm : Int) (w : World) (hz : IntsR w A n zs) (hk : IntsR w B m ks) (hn : n ≤ 17592186044415) (hm : m ≤ maxLen) (hmd : m ≤ d) :
    Calls Try.prog 9 #[.slice A n c, .slice B m d, .int .i64 tm] w fun e w' => e = .returned (.bool true) ∧ Below w.heap.size w w' := by
  by_cases h1 : tm < 1
  · go_enter Try.func9, Try.ntmps9
    go_wp2_with fail
    go_ret
    exact ⟨rfl, Below.refl _ _⟩
  by_cases h2 : 1000 < tm
  · go_enter Try.func9, Try.ntmps9
    go_wp2_with fail
    go_ret
    exact ⟨rfl, Below.refl _ _⟩
  obtain ⟨zm, hzm⟩ : ∃ zm, (zs.map fun r : Int => r.tmod 1000) = zm := ⟨_, rfl⟩
  obtain ⟨rs, hrs⟩ : ∃ rs, zm.take 300 = rs := ⟨_, rfl⟩
  obtain ⟨k, hkk⟩ : ∃ k, rankKeys rs.length ks = k := ⟨_, rfl⟩
  have hzl : zm.length = n := by rw [← hzm, List.length_map]; exact hz.1
  have hz3 : rs.length ≤ 300 := by rw [← hrs, List.length_take]; omega
  have hrn : rs.length ≤ n := by rw [← hrs, List.length_take]; omega
  have hrt : zm.take rs.length = rs := by
    rw [← hrs, List.length_take]
    by_cases h : 300 ≤ zm.length
    · rw [Nat.min_eq_left h]
    · rw [Nat.min_eq_right (by omega), List.take_of_length_le (Nat.le_refl _), List.take_of_length_le (by omega)]
  have hbd : ∀ i, i < rs.length → -1000 < rs.getD i 0 ∧ rs.getD i 0 < 1000 := fun i hi => by
    rw [getD_at rs 0 i hi]
    have : ∃ z : Int, rs[i]'hi = z.tmod 1000 := by
      subst hrs
      rw [List.getElem_take]
      subst hzm
      rw [List.getElem_map]
      exact ⟨_, rfl⟩
    obtain ⟨z, hz⟩ := this
    rw [hz]
    exact ⟨Int.lt_tmod_of_pos z (by decide), Int.tmod_lt_of_pos z (by decide)⟩
  have l1 := ltT_apart rs (by omega) 1 (by omega)
  have l2 := ltT_apart rs (by omega) tm (by omega)
  have HLT := Lib.hid (And.intro l1 l2)
  have hnm : n ≤ maxLen := by unfold maxLen; omega
  have H0 := Lib.hid (And.intro hz (And.intro hk (And.intro hnm (And.intro hm hmd))))
  have HX := Lib.hid (And.intro hrt (And.intro hrn hbd))
  have HR0 := Lib.hid (And.intro hrs hkk)
  have HZM := Lib.hid hzm
  have e1 : min (rs.length : Int) (n : Int) = (rs.length : Int) := by omega
  clear hz hk hm hmd hnm hrs hkk hzm hzl hrt hbd l1 l2 hrn
  go_enter Try.func9, Try.ntmps9
  go_wp2_with fail
  refine (modest_any A n c zs w H0.out.1 hn).mono ?_
  rintro e w1 ⟨b1, c1, rfl, hi1, hc1, hb1⟩
  rw [HZM.out] at hi1
  have H1 := Lib.hid (And.intro hi1 (And.intro hc1 hb1))
  clear hi1 hc1 hb1 HZM
  go_wp2_with fail
  refine (ranked_tab _ B n c1 m d zm ks w1 H1.out.1 (H0.out.2.1.below H1.out.2.2) H0.out.2.2.1 H1.out.2.1 H0.out.2.2.2.1 H0.out.2.2.2.2 rs k HR0.out.1 HR0.out.2).mono ?_
  rintro e w2 ⟨b2, c2, L, b3, c3, M, rfl, hM, hM3, hT, hL, hK, hb2⟩
  have hbt := hb2.alloc hb2.size (.cells #[.int .i64 (rs.length : Int), .slice (some ⟨b2, 0, none⟩) L c2] 28)
  have HTA := Lib.hid (TabB.made (rs.length : Int) c2 hT hL)
  have HAK := Lib.hid (hK.alloc (.cells #[.int .i64 (rs.length : Int), .slice (some ⟨b2, 0, none⟩) L c2] 28))
  have HAS := Lib.hid (H1.out.1.below hbt)
  have HBA := Lib.hid (H1.out.2.2.trans (hbt.mono H1.out.2.2.size))
  obtain ⟨_, x0, x1, _, _⟩ := HTA.out
  clear hM hT hL hK hb2 hbt H1 H0 HR0
  go_wp2_with fail
  generalize w2.alloc (.cells #[.int .i64 (rs.length : Int), .slice (some ⟨b2, 0, none⟩) L c2] 28) = wa at HTA HAK HAS HBA x0 x1 ⊢
  generalize w2.heap.size = tb at HTA x0 x1 ⊢
  clear e1
  go_cut [11] (fun v wx => ∃ bx, v = .pointer (some ⟨bx, 0, none⟩) ∧ Hid (Box3 wx bx M (sorted (ltT (rs.length : Int) (rankT rs)) (ents k)) ∧ Below wa.heap.size wa wx))
  case first =>
    as_aux_lemma =>
      have na : tb ≠ wa.heap.size := Nat.ne_of_lt HTA.out.1
      have na' : wa.heap.size ≠ tb := na.symm
      go_region_held3 (fun w' => w'.cell? ⟨tb, 0, none⟩ = some (.int .i64 (rs.length : Int)) ∧ w'.cell? ⟨tb, 1, none⟩ = some (.slice (some ⟨b2, 0, none⟩) L c2)) (go_keep)
        (first
          | (go_at_call 12; refine (entries_tab _ M c3 k _ (HAK.out.below (by first | exact below_d _ | exact below_da _ _)) (by omega)).mono ?_; rintro e wb ⟨bb, cb, rfl, hitb, hl3, hc3, hbb⟩; have HIB := Lib.hid (And.intro hitb (show Below wa.heap.size wa wb from by first | exact (below_d _).trans (hbb.mono (below_d _).size) | exact (below_da _ _).trans (hbb.mono (below_da _ _).size))); (first | (have HZ := Lib.hid (z3d hbb)) | skip); have HTB := Lib.hid (HTA.out.below HIB.out.2); obtain ⟨_, k0, k1, _, _⟩ := HTB.out; have nb : tb ≠ wb.heap.size := Nat.ne_of_lt HTB.out.1; have nb' : wb.heap.size ≠ tb := nb.symm; clear hitb hbb hl3 hc3)
          | (go_at_call 11; refine (roads_any _ _ L c2 (rankT rs) bb 0 M cb (ents k) _ (HTB.out.below (by first | exact Below.refl _ _ | exact below_a _ _)).2.2.2.1 HTB.out.2.2.2.2 (HIB.out.1.below (by first | exact Below.refl _ _ | exact below_a _ _)) (by omega)).mono ?_; rintro e wc ⟨p0, d0, p1, d1, p2, d2, rfl, hrd, hbc⟩; have hbc' : Below wb.heap.size wb wc := (by first | exact hbc | exact (below_a _ _).trans (hbc.mono (below_a _ _).size)); have HRD := Lib.hid (And.intro hrd (HIB.out.2.trans (hbc'.mono HIB.out.2.size))); (first | (have HZ := Lib.hid (z3 hbc)) | (replace HZ := Lib.hid (HZ.out.below hbc')) | skip); (first | (obtain ⟨z0, z1, z2, g0, g1, g2, _⟩ := HZ.out) | skip); have HTC := Lib.hid (HTB.out.below hbc'); obtain ⟨_, k2, k3, _, _⟩ := HTC.out; clear hrd hbc hbc'))
      all_goals
        go_wp2_with fail
        go_meet
        first
          | exact ⟨_, rfl, Box3.made HRD.out.1, HRD.out.2.alloc HRD.out.2.size _⟩
          | exact ⟨_, rfl, Box3.stored HRD.out.1 HZ.out, below_stored HRD.out.2 (by first | exact Nat.le_refl _ | exact HIB.out.2.size)⟩
  case rest =>
    obtain ⟨ab, rfl, HCUT⟩ := hcut
    have HA := Lib.hid HCUT.out.1
    have HCS := Lib.hid (HAS.out.below HCUT.out.2)
    have HCK := Lib.hid (HAK.out.below HCUT.out.2)
    have HCB := Lib.hid (HBA.out.trans (HCUT.out.2.mono HBA.out.size))
    clear HCUT HTA HAK HAS HBA x0 x1
    go_wp2_with fail
    refine (apart_any _ n c1 rs.length zm rs 1 wc (HCS.out) HX.out.1 HX.out.2.1 (by omega) HX.out.2.2 (by omega) (by omega)).mono ?_
    rintro e wd ⟨Bp, Lp, fp, rfl, hip, hlp, hbp⟩
    have HIp := Lib.hid (And.intro hip (And.intro hlp hbp))
    clear hip hlp hbp
    go_wp2_with fail
    refine (entries_tab _ M c3 k wd (HCK.out.below HIp.out.2.2) (by omega)).mono ?_
    rintro e we ⟨gp, hp, rfl, hitp, hlp, hcp, hbp⟩
    have HEp := Lib.hid (And.intro hitp (And.intro (HIp.out.1.below hbp) (HIp.out.2.2.trans (hbp.mono HIp.out.2.2.size))))
    clear hitp hlp hcp hbp
    go_wp2_with fail
    refine (roads_any _ _ Lp fp _ gp 0 M hp (ents k) we HEp.out.2.1 HIp.out.2.1 HEp.out.1 (by omega)).mono ?_
    rintro e wf ⟨sp0, tp0, sp1, tp1, sp2, tp2, rfl, hrd, hbp⟩
    rw [HLT.out.1] at hrd
    have hbq := HEp.out.2.2.trans (hbp.mono HEp.out.2.2.size)
    have hba := hbq.alloc hbq.size (.cells #[.slice (some ⟨sp0, 0, none⟩) M tp0, .slice (some ⟨sp1, 0, none⟩) M tp1, .slice (some ⟨sp2, 0, none⟩) M tp2] 25)
    have HBX := Lib.hid (Box3.made (c0 := tp0) (c1 := tp1) (c2 := tp2) hrd)
    have HA2 := Lib.hid (HA.out.below hba)
    have HDS := Lib.hid (HCS.out.below hba)
    have HDK := Lib.hid (HCK.out.below hba)
    have HDB := Lib.hid (HCB.out.trans (hba.mono HCB.out.size))
    clear hrd hbp hbq hba HIp HEp HA HCS HCK HCB
    go_wp2_with fail
    generalize wf.alloc (.cells #[.slice (some ⟨sp0, 0, none⟩) M tp0, .slice (some ⟨sp1, 0, none⟩) M tp1, .slice (some ⟨sp2, 0, none⟩) M tp2] 25) = wg at HBX HA2 HDS HDK HDB ⊢
    generalize wf.heap.size = bb at HBX ⊢
    refine (apart_any _ n c1 rs.length zm rs tm wg (HDS.out) HX.out.1 HX.out.2.1 (by omega) HX.out.2.2 (by omega) (by omega)).mono ?_
    rintro e wh ⟨Br, Lr, fr, rfl, hir, hlr, hbr⟩
    have HIr := Lib.hid (And.intro hir (And.intro hlr hbr))
    clear hir hlr hbr
    go_wp2_with fail
    refine (entries_tab _ M c3 k wh (HDK.out.below HIr.out.2.2) (by omega)).mono ?_
    rintro e wi ⟨gr, hr, rfl, hitr, hlr, hcr, hbr⟩
    have HEr := Lib.hid (And.intro hitr (And.intro (HIr.out.1.below hbr) (HIr.out.2.2.trans (hbr.mono HIr.out.2.2.size))))
    clear hitr hlr hcr hbr
    go_wp2_with fail
    refine (roads_any _ _ Lr fr _ gr 0 M hr (ents k) wi HEr.out.2.1 HIr.out.2.1 HEr.out.1 (by omega)).mono ?_
    rintro e wj ⟨sr0, tr0, sr1, tr1, sr2, tr2, rfl, hrd, hbr⟩
    rw [HLT.out.2] at hrd
    have hbq := HEr.out.2.2.trans (hbr.mono HEr.out.2.2.size)
    have hba := hbq.alloc hbq.size (.cells #[.slice (some ⟨sr0, 0, none⟩) M tr0, .slice (some ⟨sr1, 0, none⟩) M tr1, .slice (some ⟨sr2, 0, none⟩) M tr2] 25)
    have HCX := Lib.hid (Box3.made (c0 := tr0) (c1 := tr1) (c2 := tr2) hrd)
    have HA3 := Lib.hid (HA2.out.below hba)
    have HB3 := Lib.hid (HBX.out.below hba)
    have HBC := Lib.hid (HDB.out.trans (hba.mono HDB.out.size))
    clear hrd hbr hbq hba HIr HEr HA2 HBX HDS HDK HDB HLT HX
    go_wp2_with fail
    generalize wj.alloc (.cells #[.slice (some ⟨sr0, 0, none⟩) M tr0, .slice (some ⟨sr1, 0, none⟩) M tr1, .slice (some ⟨sr2, 0, none⟩) M tr2] 25) = wk at HCX HA3 HB3 HBC ⊢
    generalize wj.heap.size = cb at HCX ⊢
    generalize sorted (ltT (rs.length : Int) (rankT rs)) (ents k) = S at HCX HA3 HB3
    go_loopg [51] 3 (fun g vi wr => ∃ (i : Nat), vi = .int .i64 i ∧ i ≤ 3 ∧ 3 - i ≤ g ∧ Hid (Below wk.heap.size wk wr))
    case atStart => exact ⟨0, rfl, by omega, by omega, Below.refl _ _⟩
    case round =>
      obtain ⟨i, rfl, hi3, hg, HR⟩ := hrel
      by_cases hlt2 : i < 3
      · have hltz2 : (i : Int) < 3 := by omega
        obtain ⟨xa, ca, ya, hia⟩ := (HA3.out.below HR.out).at hlt2
        obtain ⟨xb, cb', yb, hib⟩ := (HB3.out.below HR.out).at hlt2
        obtain ⟨xc, cc', yc, hic⟩ := (HCX.out.below HR.out).at hlt2
        have HI := Lib.hid (And.intro hia (And.intro hib hic))
        clear hia hib hic
        go_upto_region 12 with fail
        go_region_held3 (fun w' => w'.cell? ⟨ab, i, none⟩ = some (.slice (some ⟨xa, 0, none⟩) M ca) ∧ w'.cell? ⟨bb, i, none⟩ = some (.slice (some ⟨xb, 0, none⟩) M cb') ∧ w'.cell? ⟨cb, i, none⟩ = some (.slice (some ⟨xc, 0, none⟩) M cc')) (go_keep)
          (first
            | (go_at_call_of 13 (Value.slice (some ⟨xb, 0, none⟩) M cb'); refine (same_eq xa 0 M ca xb 0 cb' S _ (by exact HI.out.1) (by exact HI.out.2.1) (by omega)).mono ?_; rintro e wx ⟨rfl, qq, rfl⟩)
            | (go_at_call 13; refine (same_eq xa 0 M ca xc 0 cc' S _ (by exact HI.out.1) (by exact HI.out.2.2) (by omega)).mono ?_; rintro e wy ⟨rfl, qr, rfl⟩))
        go_wp2_with fail
        go_roundg (3 - (i + 1))
        case measure => omega
        case rel => exact ⟨i + 1, by go_num, by omega, Nat.le_refl _, (show Hid _ from ⟨HR.out.os, HR.out.tape, HR.out.output, HR.out.size, HR.out.block⟩)⟩
      · have hltz2 : ¬ (i : Int) < 3 := by omega
        go_wp2_with fail
        go_ret
        exact ⟨rfl, HBC.out.trans (HR.out.mono HBC.out.size)⟩

theorem FnStretched_said {A B : Option Addr} {n c m d : Nat} {zs ks : List Int} (hs : n ≤ 17592186044415) (w : World) (hz : IntsR w A n zs) (_hnc : n ≤ c) (_hc : c ≤ maxLen) (hk : IntsR w B m ks) (hmd : m ≤ d) (hd : d ≤ maxLen) (tm : Int) (_wt : (Lit.int .i64 tm).wf = true) :
    Calls Try.prog 9 #[.slice A n c, .slice B m d, .int .i64 tm] w fun e w' => e = .returned (.bool true) ∧ Below w.heap.size w w' :=
  FnStretched_walk A B n c m d zs ks tm w hz hk hs (Nat.le_trans hmd hd) hmd
end Go.Proofs.Ytdpomoengbpcaaa
