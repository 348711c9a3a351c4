/- Walks: laws.FnSome returns true. -/
import Derived.Test.YtdpomoengbpcaaaHelpG
import Derived.Test.YtdpomoengbpcaaaHelpH
namespace Go.Proofs.Ytdpomoengbpcaaa
open Go.RowKit Go.Sort Go.Lib

theorem filter_take_succ {α : Type} (P : α → Bool) (l : List α) (k : Nat) (d : α) (h : k < l.length) : (l.take (k + 1)).filter P = (l.take k).filter P ++ (if P (l.getD k d) = true then [l.getD k d] else []) := by
  rw [List.take_succ_eq_append_getElem h, List.filter_append, getD_at l d k h]
  congr 1
  simp only [List.filter_cons, List.filter_nil]

set_option maxHeartbeats 4000000 in
set_option maxRecDepth 100000 in
theorem FnSome_walk (A B D : Option Addr) (n c m d p e' : Nat) (zs ks vs : List Int) (w : World) (hz : IntsR w A n zs) (hk : IntsR w B m ks) (hv : IntsR w D p vs) (hn : n ≤ maxLen) (hnc : n ≤ c) (hm : m ≤ maxLen) (hmd : m ≤ d) (hp : p ≤ maxLen) :
    Calls Try.prog 7 #[.slice A n c, .slice B m d, .slice D p e'] w fun e w' => e = .returned (.bool true) ∧ Below w.heap.size w w' := by
  obtain ⟨rs, hrs⟩ : ∃ rs, zs.take 300 = rs := ⟨_, rfl⟩
  obtain ⟨k, hkk⟩ : ∃ k, rankKeys rs.length ks = k := ⟨_, rfl⟩
  have HC := Lib.hid (ranked_tab A B n c m d zs ks w hz hk hn hnc hm hmd rs k hrs hkk)
  have hz3 : rs.length ≤ 300 := by rw [← hrs, List.length_take]; omega
  have hkin : ∀ x ∈ k, 0 ≤ x ∧ x < (rs.length : Int) := by rw [← hkk]; exact rankKeys_in rs.length ks
  have hw : Weak (ltT (rs.length : Int) (rankT rs)) (· ∈ ents k) := (rank_weak rs (by omega)).weak (ents_keys hkin)
  have hfin : ∀ P : It → Bool, sorted (ltT (rs.length : Int) (rankT rs)) ((ents k).filter P) = (sorted (ltT (rs.length : Int) (rankT rs)) (ents k)).filter P := fun P => sortedA_some hw (ents_nodup k) P
  have hke : ∀ j, j < k.length → 0 ≤ ((ents k).getD j (0, 0)).1 ∧ ((ents k).getD j (0, 0)).1 < (rs.length : Int) := fun j hj => by
    rw [getD_at _ _ j (by rw [ents_length]; exact hj)]
    exact ents_keys hkin _ (List.getElem_mem _)
  have hks : ∀ j, j < k.length → 0 ≤ ((sorted (ltT (rs.length : Int) (rankT rs)) (ents k)).getD j (0, 0)).1 ∧ ((sorted (ltT (rs.length : Int) (rankT rs)) (ents k)).getD j (0, 0)).1 < (rs.length : Int) := fun j hj => by
    have hl : (sorted (ltT (rs.length : Int) (rankT rs)) (ents k)).length = k.length := by rw [sorted_length, ents_length]
    rw [getD_at _ _ j (by omega)]
    exact ents_keys hkin _ ((sortedA_perm _ (ents k)).mem_iff.1 (List.getElem_mem _))
  have HF := Lib.hid (And.intro hfin (And.intro hke hks))
  have HV := Lib.hid hv
  unfold maxLen at hp
  clear hz hk hv hn hnc hm hmd hrs hkk hkin hw hfin hke hks
  go_enter Try.func7, Try.ntmps7
  go_wp2_with fail
  refine HC.out.mono ?_
  rintro e w1 ⟨b1, c1, L, b2, c2, M, rfl, hM, hM3, hT, hL, hK, hb1⟩
  have HM := Lib.hid hM
  have HT := Lib.hid (TabB.made (rs.length : Int) c1 hT hL)
  have HK := Lib.hid (hK.alloc (.cells #[.int .i64 (rs.length : Int), .slice (some ⟨b1, 0, none⟩) L c1] 28))
  have HB := Lib.hid (hb1.alloc hb1.size (.cells #[.int .i64 (rs.length : Int), .slice (some ⟨b1, 0, none⟩) L c1] 28))
  have hs2 : (w1.alloc (.cells #[.int .i64 (rs.length : Int), .slice (some ⟨b1, 0, none⟩) L c1] 28)).heap.size = w1.heap.size + 1 := by simp
  clear hM hT hL hK hb1 HC
  go_upto_region 2 with fail
  generalize w1.alloc (.cells #[.int .i64 (rs.length : Int), .slice (some ⟨b1, 0, none⟩) L c1] 28) = w2 at HT HK HB hs2 ⊢
  generalize w1.heap.size = tb at HT hs2 ⊢
  obtain ⟨_, x0, x1, _, _⟩ := HT.out
  have HS2 := Lib.hid hs2
  clear hs2
  go_wp2_with (at_make; refine wpList_makeB rfl (.tmp 29) (.tmp 29) rfl rs.length rfl rfl (by omega) ?_; intro w3 hown3 hgrow3)
  have hb3 : Below w2.heap.size w2 w3 := (Below.refl _ _).grown hgrow3.out (Nat.le_refl _) (fun k hk => by cases hk)
  have HI := Lib.hid (show BoolsR w3 w2.heap.size rs.length (fun _ => false) from hown3.out)
  have HB3 := Lib.hid hb3
  clear hown3 hgrow3 hb3 x0 x1
  generalize hib : w2.heap.size = ib at HI ⊢
  have HIB := Lib.hid hib
  clear hib
  go_loopg [33] p (fun g vi wr => ∃ (j : Nat), vi = .int .i64 j ∧ j ≤ p ∧ p - j ≤ g ∧ Hid (∃ f, BoolsR wr ib rs.length f ∧ Below w2.heap.size w2 wr))
  case atStart => exact ⟨0, rfl, by omega, by omega, ⟨_, HI.out, HB3.out⟩⟩
  case round =>
    obtain ⟨j, rfl, hjp, hg, HR⟩ := hrel
    obtain ⟨f, hf0, hbf0⟩ := HR.out
    have HFB := Lib.hid hf0
    have HBF := Lib.hid hbf0
    have HTR := Lib.hid (HT.out.below hbf0)
    obtain ⟨_, x0, x1, _, _⟩ := HTR.out
    clear hf0 hbf0 HR
    by_cases hlt : j < p
    · have hltz : (j : Int) < (p : Int) := by omega
      obtain ⟨bv, ov, rfl, hbv, hcv⟩ := HV.out.2 (by omega)
      have hcell : wr.cell? ⟨bv, ov + j, none⟩ = some (.int .i64 (vs.getD j 0)) := ((HB.out.trans (HBF.out.mono HB.out.size)).cell (p := ⟨bv, ov + j, none⟩) hbv).trans (hcv j hlt)
      generalize vs.getD j 0 = x at hcell
      clear hcv hbv
      by_cases hx : 0 ≤ x ∧ x < (rs.length : Int)
      · obtain ⟨hx1, hx2⟩ := hx
        obtain ⟨ic, ifz⟩ := HFB.out.2 x.toNat (by omega)
        have HSET := Lib.hid (HFB.out.set x.toNat (by omega) true)
        have HBS := Lib.hid (HBF.out.setCell (p := ⟨ib, x.toNat, none⟩) (by show w2.heap.size ≤ ib; rw [HIB.out]; exact Nat.le_refl _) (.bool true))
        go_wp2_with fail
        go_roundg (p - (j + 1))
        case measure => omega
        case rel => exact ⟨j + 1, by go_num, by omega, Nat.le_refl _, (show Hid _ from ⟨_, HSET.out, HBS.out⟩)⟩
      · by_cases hx1 : 0 ≤ x
        · have hx2 : ¬ x < (rs.length : Int) := fun h => hx ⟨hx1, h⟩
          go_wp2_with fail
          go_roundg (p - (j + 1))
          case measure => omega
          case rel => exact ⟨j + 1, by go_num, by omega, Nat.le_refl _, (show Hid _ from ⟨_, HFB.out, HBF.out⟩)⟩
        · go_wp2_with fail
          go_roundg (p - (j + 1))
          case measure => omega
          case rel => exact ⟨j + 1, by go_num, by omega, Nat.le_refl _, (show Hid _ from ⟨_, HFB.out, HBF.out⟩)⟩
    · have hltz : ¬ (j : Int) < (p : Int) := by omega
      have HKR := Lib.hid (HK.out.below HBF.out)
      have HBR := Lib.hid (HB.out.trans (HBF.out.mono HB.out.size))
      clear HT HK HB HI HB3 HBF hg x0 x1 HV
      go_wp2_with fail
      refine (entries_tab _ M c2 k wr HKR.out (by omega)).mono ?_
      rintro e w4 ⟨b4, c4, rfl, hit4, hl4, hc4, hb4⟩
      have HL := Lib.hid hit4
      have HF4 := Lib.hid (HFB.out.below hb4)
      have HT4 := Lib.hid (HTR.out.below hb4)
      have HB4 := Lib.hid (HBR.out.trans (hb4.mono HBR.out.size))
      have HMK := Lib.hid (show (ents k).length = M by rw [ents_length, HM.out])
      clear hit4 hl4 hc4 hb4 HKR HFB HTR HBR
      go_wp2_with fail
      go_loopg [13, 54] M (fun g v vi wr => ∃ (i q b cc : Nat), v = .slice (some ⟨b, 0, none⟩) q cc ∧ vi = .int .i64 i ∧ i ≤ M ∧ M - i ≤ g ∧ q ≤ i ∧ Hid (q = (((ents k).take i).filter fun x => f x.1.toNat).length ∧ OwnI wr w4.heap.size b cc (((ents k).take i).filter fun x => f x.1.toNat) ∧ Below w4.heap.size w4 wr))
      case atStart => exact ⟨0, 0, w4.heap.size, 0, rfl, rfl, by omega, by omega, by omega, by simp, by rw [List.take_zero]; exact OwnI.made w4, below_a _ _⟩
      case round =>
        obtain ⟨i, q, b, cc, rfl, rfl, hiM, hg, hqi, HR⟩ := hrel
        by_cases hlt2 : i < M
        · have hltz2 : (i : Int) < (M : Int) := by omega
          obtain ⟨y1, y2⟩ := (HL.out.below HR.out.2.2).2.2 i hlt2
          simp only [Nat.zero_add] at y1 y2
          have hin := HF.out.2.1 i (by rw [← HM.out]; exact hlt2)
          have HTS := Lib.hid (filter_take_succ (fun x : It => f x.1.toNat) (ents k) i (0, 0) (by rw [HMK.out]; exact hlt2))
          generalize (ents k).getD i (0, 0) = x at y1 y2 hin HTS
          obtain ⟨hin1, hin2⟩ := hin
          have HFR := Lib.hid ((HF4.out.below HR.out.2.2).below (below_a _ (.cells #[.int .i64 x.1, .int .i64 x.2] 35)))
          obtain ⟨ic, _⟩ := HFR.out.2 x.1.toNat (by omega)
          have hbb : w4.heap.size ≤ b := HR.out.2.1.lt.1
          have hsz : w4.heap.size ≤ wr.heap.size := HR.out.2.2.size
          cases hfx : f x.1.toNat with
          | false =>
            rw [hfx] at ic
            go_wp2_with fail
            go_roundg (M - (i + 1))
            case measure => omega
            case rel =>
              refine ⟨i + 1, q, b, cc, rfl, by go_num, by omega, Nat.le_refl _, by omega, (show Hid _ from ?_)⟩
              rw [HTS.out]
              simp only [hfx, Bool.false_eq_true, if_false, List.append_nil]
              exact ⟨HR.out.1, HR.out.2.1.alloc _, HR.out.2.2.alloc hsz _⟩
          | true =>
            rw [hfx] at ic
            have HO := Lib.hid (And.intro HR.out.1 ((HR.out.2.1.alloc (.cells #[.int .i64 x.1, .int .i64 x.2] 35)).alloc (.cells #[.int .i64 x.1, .int .i64 x.2] 35)))
            have HS := Lib.hid (ItemsR.one (wr.alloc (.cells #[.int .i64 x.1, .int .i64 x.2] 35)) x.1 x.2)
            rw [World.size_alloc] at HS
            go_wp2_with (at_builtin; refine wpList_appI rfl (.tmp 63) (.tmp 65) rfl w4.heap.size b cc q _ rfl HO.out (wr.heap.size + 1) 0 1 1 [(x.1, x.2)] rfl HS.out (by omega) (by simp; omega) ?_; intro b5 c5 w5 hown5 hgrow5)
            go_roundg (M - (i + 1))
            case measure => omega
            case rel =>
              refine ⟨i + 1, q + 1, b5, c5, rfl, by go_num, by omega, Nat.le_refl _, by omega, (show Hid _ from ?_)⟩
              rw [HTS.out]
              simp only [hfx, if_true]
              exact ⟨hown5.out.1, hown5.out.2, below_app ((HR.out.2.2.alloc hsz _).alloc (by simp; omega) _) hgrow5.out (by simp; omega) hbb⟩
        · have hltz2 : ¬ (i : Int) < (M : Int) := by omega
          obtain rfl : i = M := by omega
          have hsm : ItemsR wr b 0 q ((ents k).filter fun x => f x.1.toNat) := by
            have h := HR.out.2.1
            have hq := HR.out.1
            rw [List.take_of_length_le (by rw [HMK.out]; exact Nat.le_refl _)] at h hq
            have hi := h.items
            rw [← hq] at hi
            exact hi
          have HSM := Lib.hid hsm
          have HLR := Lib.hid (HL.out.below HR.out.2.2)
          have HFR := Lib.hid (HF4.out.below HR.out.2.2)
          have HTR := Lib.hid (HT4.out.below HR.out.2.2)
          have HBR := Lib.hid (HB4.out.trans (HR.out.2.2.mono HB4.out.size))
          obtain ⟨_, x0, x1, _, _⟩ := HTR.out
          clear hsm HR hg HL HF4 HT4 HB4
          go_wp2_with fail
          refine (roads_any _ _ L c1 (rankT rs) b4 0 i c4 (ents k) wr HTR.out.2.2.2.1 HTR.out.2.2.2.2 HLR.out (by omega)).mono ?_
          rintro e w5 ⟨r0, q0, r1, q1, r2, q2, rfl, hrd, hb5⟩
          have hba := hb5.alloc hb5.size (.cells #[.slice (some ⟨r0, 0, none⟩) i q0, .slice (some ⟨r1, 0, none⟩) i q1, .slice (some ⟨r2, 0, none⟩) i q2] 25)
          have HA := Lib.hid (Box3.made (c0 := q0) (c1 := q1) (c2 := q2) hrd)
          have HSA := Lib.hid (HSM.out.below hba)
          have HFA := Lib.hid (HFR.out.below hba)
          have HTA := Lib.hid (HTR.out.below hba)
          have HBA := Lib.hid (HBR.out.trans (hba.mono HBR.out.size))
          clear hrd hb5 hba HSM HLR HFR HTR HBR x0 x1
          obtain ⟨_, x0, x1, _, _⟩ := HTA.out
          go_wp2_with fail
          generalize w5.alloc (.cells #[.slice (some ⟨r0, 0, none⟩) i q0, .slice (some ⟨r1, 0, none⟩) i q1, .slice (some ⟨r2, 0, none⟩) i q2] 25) = wa at HA HSA HFA HTA HBA x0 x1 ⊢
          generalize w5.heap.size = ab at HA ⊢
          refine (roads_any _ _ L c1 (rankT rs) b 0 q cc ((ents k).filter fun x => f x.1.toNat) wa HTA.out.2.2.2.1 HTA.out.2.2.2.2 HSA.out (by omega)).mono ?_
          rintro e w6 ⟨s0, t0, s1, t1, s2, t2, rfl, hrd, hb6⟩
          rw [HF.out.1 (fun x => f x.1.toNat)] at hrd
          have hbb := hb6.alloc hb6.size (.cells #[.slice (some ⟨s0, 0, none⟩) q t0, .slice (some ⟨s1, 0, none⟩) q t1, .slice (some ⟨s2, 0, none⟩) q t2] 25)
          have HBX := Lib.hid (Box3.made (c0 := t0) (c1 := t1) (c2 := t2) hrd)
          have HA2 := Lib.hid (HA.out.below hbb)
          have HFB := Lib.hid (HFA.out.below hbb)
          have HTB := Lib.hid (HTA.out.below hbb)
          have HBB := Lib.hid (HBA.out.trans (hbb.mono HBA.out.size))
          have HKS := Lib.hid (fun j hj => HF.out.2.2 j (show j < k.length from by rw [← HM.out]; exact hj))
          have HLS := Lib.hid (show (sorted (ltT (rs.length : Int) (rankT rs)) (ents k)).length = i by rw [sorted_length]; exact HMK.out)
          clear hrd hb6 hbb HSA HFA HTA HBA HA x0 x1 HF
          go_wp2_with fail
          generalize w6.alloc (.cells #[.slice (some ⟨s0, 0, none⟩) q t0, .slice (some ⟨s1, 0, none⟩) q t1, .slice (some ⟨s2, 0, none⟩) q t2] 25) = wb at HBX HA2 HFB HTB HBB ⊢
          generalize w6.heap.size = bb at HBX ⊢
          generalize sorted (ltT (rs.length : Int) (rankT rs)) (ents k) = S at HBX HA2 HKS HLS
          go_loopg [74] 3 (fun g vi wr => ∃ (u : Nat), vi = .int .i64 u ∧ u ≤ 3 ∧ 3 - u ≤ g ∧ Hid (Below wb.heap.size wb wr))
          case atStart => exact ⟨0, rfl, by omega, by omega, Below.refl _ _⟩
          case round =>
            obtain ⟨u, rfl, hu3, hg, HR⟩ := hrel
            by_cases hltu : u < 3
            · have hltzu : (u : Int) < 3 := by omega
              have HAU := Lib.hid (HA2.out.below HR.out)
              have HBU := Lib.hid (HBX.out.below HR.out)
              obtain ⟨xa, ca, ya, hia⟩ := HAU.out.at hltu
              obtain ⟨xb, cb', yb, hib⟩ := HBU.out.at hltu
              have hsa : ab < wr.heap.size := by obtain ⟨_, _, _, _, _, _, h, _⟩ := HAU.out; exact h
              have hsb : bb < wr.heap.size := by obtain ⟨_, _, _, _, _, _, h, _⟩ := HBU.out; exact h
              have HIA := Lib.hid hia
              have HIB' := Lib.hid hib
              have HFU := Lib.hid (HFB.out.below HR.out)
              have HTU := Lib.hid (HTB.out.below HR.out)
              have ya' : (wr.alloc (.cells #[] 35)).cell? ⟨ab, u, none⟩ = some (.slice (some ⟨xa, 0, none⟩) i ca) := (((below_a wr _).cell (p := ⟨ab, u, none⟩) hsa)).trans ya
              have TR := Lib.hid (fun (W' : World) (hb : Below wr.heap.size wr W') => And.intro ((hb.cell (p := ⟨ab, u, none⟩) hsa).trans ya) ((hb.cell (p := ⟨bb, u, none⟩) hsb).trans yb))
              clear hia hib HAU HBU ya yb hsa hsb
              go_wp2_with fail
              clear ya'
              go_loopg [19, 82] i (fun g v vi wr2 => ∃ (z qq b' cc' : Nat), v = .slice (some ⟨b', 0, none⟩) qq cc' ∧ vi = .int .i64 z ∧ z ≤ i ∧ i - z ≤ g ∧ qq ≤ z ∧ Hid (qq = ((S.take z).filter fun x => f x.1.toNat).length ∧ OwnI wr2 wr.heap.size b' cc' ((S.take z).filter fun x => f x.1.toNat) ∧ Below wr.heap.size wr wr2))
              case atStart => exact ⟨0, 0, wr.heap.size, 0, rfl, rfl, by omega, by omega, by omega, by simp, by rw [List.take_zero]; exact OwnI.made wr, below_a _ _⟩
              case round =>
                obtain ⟨z, qq, b', cc', rfl, rfl, hzi, hg2, hqz, HR2⟩ := hrel
                by_cases hltz' : z < i
                · have hltzz : (z : Int) < (i : Int) := by omega
                  obtain ⟨y1, y2⟩ := (HIA.out.below HR2.out.2.2).2.2 z hltz'
                  simp only [Nat.zero_add] at y1 y2
                  have hin := HKS.out z hltz'
                  have HTS := Lib.hid (filter_take_succ (fun x : It => f x.1.toNat) S z (0, 0) (by rw [HLS.out]; exact hltz'))
                  have HT2 := Lib.hid ((HTU.out.below HR2.out.2.2))
                  generalize S.getD z (0, 0) = x at y1 y2 hin HTS
                  obtain ⟨hin1, hin2⟩ := hin
                  obtain ⟨_, x0, x1, _, _⟩ := HT2.out.below (below_a _ (.cells #[.int .i64 x.1, .int .i64 x.2] 35))
                  have HFR := Lib.hid ((HFU.out.below HR2.out.2.2).below (below_a _ (.cells #[.int .i64 x.1, .int .i64 x.2] 35)))
                  obtain ⟨ic, _⟩ := HFR.out.2 x.1.toNat (by omega)
                  have hbb := HR2.out.2.1.lt.1
                  have hsz := HR2.out.2.2.size
                  cases hfx : f x.1.toNat with
                  | false =>
                    rw [hfx] at ic
                    go_wp2_with fail
                    go_roundg (i - (z + 1))
                    case measure => omega
                    case rel =>
                      refine ⟨z + 1, qq, b', cc', rfl, by go_num, by omega, Nat.le_refl _, by omega, (show Hid _ from ?_)⟩
                      rw [HTS.out]
                      simp only [hfx, Bool.false_eq_true, if_false, List.append_nil]
                      exact ⟨HR2.out.1, HR2.out.2.1.alloc _, HR2.out.2.2.alloc hsz _⟩
                  | true =>
                    rw [hfx] at ic
                    have HO := Lib.hid (And.intro HR2.out.1 ((HR2.out.2.1.alloc (.cells #[.int .i64 x.1, .int .i64 x.2] 35)).alloc (.cells #[.int .i64 x.1, .int .i64 x.2] 35)))
                    have HS := Lib.hid (ItemsR.one (wr.alloc (.cells #[.int .i64 x.1, .int .i64 x.2] 35)) x.1 x.2)
                    rw [World.size_alloc] at HS
                    go_wp2_with (at_builtin; refine wpList_appI rfl (.tmp 103) (.tmp 105) rfl _ b' cc' qq _ rfl HO.out (wr.heap.size + 1) 0 1 1 [(x.1, x.2)] rfl HS.out (by omega) (by simp; omega) ?_; intro b5 c5 w9 hown5 hgrow5)
                    go_roundg (i - (z + 1))
                    case measure => omega
                    case rel =>
                      refine ⟨z + 1, qq + 1, b5, c5, rfl, by go_num, by omega, Nat.le_refl _, by omega, (show Hid _ from ?_)⟩
                      rw [HTS.out]
                      simp only [hfx, if_true]
                      exact ⟨hown5.out.1, hown5.out.2, below_app ((HR2.out.2.2.alloc hsz _).alloc (by simp; omega) _) hgrow5.out (by simp; omega) hbb⟩
                · have hltzz : ¬ (z : Int) < (i : Int) := by omega
                  obtain rfl : z = i := by omega
                  have hlf := HR2.out.2.1
                  have hlq := HR2.out.1
                  rw [List.take_of_length_le (by rw [HLS.out]; exact Nat.le_refl _)] at hlf hlq
                  have hli := hlf.items
                  rw [← hlq] at hli
                  obtain ⟨ya, yb⟩ := TR.out _ HR2.out.2.2
                  have hIB := HIB'.out.below HR2.out.2.2
                  obtain rfl : qq = q := by have h1 := hIB.1; have h2 := hli.1; omega
                  have HLF := Lib.hid hli
                  have HIB2 := Lib.hid hIB
                  clear hlf hlq hli hIB
                  go_wp2_with fail
                  refine (same_eq b' 0 qq cc' xb 0 cb' _ _ HLF.out HIB2.out (by omega)).mono ?_
                  rintro e w9 ⟨rfl, qw, rfl⟩
                  go_wp2_with fail
                  go_roundg (3 - (u + 1))
                  case measure => omega
                  case rel => exact ⟨u + 1, by go_num, by omega, Nat.le_refl _, (show Hid _ from below_drewN (HR.out.trans (HR2.out.2.2.mono HR.out.size)) _)⟩
            · have hltzu : ¬ (u : Int) < 3 := by omega
              go_wp2_with fail
              go_ret
              exact ⟨rfl, HBB.out.trans (HR.out.mono HBB.out.size)⟩

theorem FnSome_said {A B D : Option Addr} {n c m d p e' : Nat} {zs ks vs : List Int} (w : World) (hz : IntsR w A n zs) (hnc : n ≤ c) (hc : c ≤ maxLen) (hk : IntsR w B m ks) (hmd : m ≤ d) (hd : d ≤ maxLen) (hv : IntsR w D p vs) (hpe : p ≤ e') (he : e' ≤ maxLen) :
    Calls Try.prog 7 #[.slice A n c, .slice B m d, .slice D p e'] w fun e w' => e = .returned (.bool true) ∧ Below w.heap.size w w' :=
  FnSome_walk A B D n c m d p e' zs ks vs w hz hk hv (Nat.le_trans hnc hc) hnc (Nat.le_trans hmd hd) hmd (Nat.le_trans hpe he)
end Go.Proofs.Ytdpomoengbpcaaa
