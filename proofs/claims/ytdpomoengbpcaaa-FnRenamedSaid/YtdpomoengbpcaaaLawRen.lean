/- Walks: laws.FnRenamed returns true. -/
import Derived.Test.YtdpomoengbpcaaaHelpG
import Derived.Deep.RegionHeld3
namespace Go.Proofs.Ytdpomoengbpcaaa
open Go.RowKit Go.Sort Go.Lib

/-- A key under its other name. -/
def nameOf (N sh : Nat) (x : Int) : Int := (((x.toNat + sh) % N : Nat) : Int)
theorem name_inj {N sh a b : Nat} (ha : a < N) (hb : b < N) (h : (a + sh) % N = (b + sh) % N) : a = b := by
  have h1 : (a + sh) % N = (b + sh) % N := h
  rcases Nat.lt_trichotomy a b with h' | h' | h'
  · have := Nat.sub_mod_eq_zero_of_mod_eq h1.symm
    rw [show b + sh - (a + sh) = b - a by omega, Nat.mod_eq_of_lt (by omega)] at this
    omega
  · exact h'
  · have := Nat.sub_mod_eq_zero_of_mod_eq h1
    rw [show a + sh - (b + sh) = a - b by omega, Nat.mod_eq_of_lt (by omega)] at this
    omega
theorem renamed_sorted (rs os k : List Int) (sh : Nat) (h3 : rs.length ≤ 300) (h0 : 0 < rs.length) (hol : os.length = rs.length) (hos : ∀ j, j < rs.length → os.getD ((j + sh) % rs.length) 0 = rs.getD j 0) (hk : ∀ x ∈ k, 0 ≤ x ∧ x < (rs.length : Int)) :
    (∀ x ∈ k.map (nameOf rs.length sh), 0 ≤ x ∧ x < (os.length : Int)) ∧
    (sorted (ltT (os.length : Int) (rankT os)) (ents (k.map (nameOf rs.length sh)))).map Prod.snd = (sorted (ltT (rs.length : Int) (rankT rs)) (ents k)).map Prod.snd := by
  have hin : ∀ x ∈ k.map (nameOf rs.length sh), 0 ≤ x ∧ x < (os.length : Int) := fun x hx => by
    obtain ⟨y, _, rfl⟩ := List.mem_map.1 hx
    have := Nat.mod_lt (y.toNat + sh) h0
    unfold nameOf
    omega
  refine ⟨hin, ?_⟩
  have he : ents (k.map (nameOf rs.length sh)) = (ents k).map fun x : It => (nameOf rs.length sh x.1, x.2) := by
    refine List.ext_getElem? fun i => ?_
    by_cases hi : i < k.length
    · rw [ents_at _ i (by rw [List.length_map]; exact hi), List.getElem?_map, ents_at k i hi, getD_at _ 0 i (by rw [List.length_map]; exact hi), List.getElem_map, getD_at k 0 i hi]; rfl
    · rw [List.getElem?_eq_none (by rw [ents_length, List.length_map]; omega), List.getElem?_eq_none (by rw [List.length_map, ents_length]; omega)]
  have hT : Weak (ltT (rs.length : Int) (rankT rs)) (· ∈ ents k) := (rank_weak rs (by omega)).weak (ents_keys hk)
  have hU : Weak (ltT (os.length : Int) (rankT os)) (· ∈ ents (k.map (nameOf rs.length sh))) := (rank_weak os (by omega)).weak (ents_keys hin)
  have hmap := sortedA_map (ltB := ltT (os.length : Int) (rankT os)) (fun x : It => (nameOf rs.length sh x.1, x.2)) hT (ents_nodup k) (by rw [← he]; exact hU) (by rw [← he]; exact ents_nodup _) (fun x y hx hy => by
    have hx' := ents_keys hk x hx
    have hy' := ents_keys hk y hy
    have k1 := ltT_iff (os.length : Int) (rankT os) (nameOf rs.length sh x.1, x.2) (nameOf rs.length sh y.1, y.2)
    have k2 := ltT_iff (rs.length : Int) (rankT rs) x y
    have m1 := Nat.mod_lt (x.1.toNat + sh) h0
    have m2 := Nat.mod_lt (y.1.toNat + sh) h0
    rw [sg_rank os (by omega) _ _ ⟨by unfold nameOf; omega, by unfold nameOf; omega⟩ ⟨by unfold nameOf; omega, by unfold nameOf; omega⟩] at k1
    rw [sg_rank rs (by omega) _ _ hx' hy'] at k2
    have e1 : os.getD (nameOf rs.length sh x.1).toNat 0 = rs.getD x.1.toNat 0 := by unfold nameOf; rw [Int.toNat_natCast]; exact hos _ (by omega)
    have e2 : os.getD (nameOf rs.length sh y.1).toNat 0 = rs.getD y.1.toNat 0 := by unfold nameOf; rw [Int.toNat_natCast]; exact hos _ (by omega)
    simp only at k1
    rw [e1, e2] at k1
    exact Bool.eq_iff_iff.2 (k1.trans k2.symm))
  have hmap' : sorted (ltT (os.length : Int) (rankT os)) ((ents k).map fun x : It => (nameOf rs.length sh x.1, x.2)) = (sorted (ltT (rs.length : Int) (rankT rs)) (ents k)).map fun x : It => (nameOf rs.length sh x.1, x.2) := hmap
  rw [he, hmap', List.map_map]
  rfl
theorem rankKeys_all (n : Nat) (ks : List Int) (h : ∀ x ∈ ks, 0 ≤ x ∧ x < (n : Int)) (hl : ks.length ≤ 3000) : rankKeys n ks = ks := by
  unfold rankKeys
  rw [List.take_of_length_le hl, List.filter_eq_self]
  intro x hx
  have := h x hx
  simp only [Bool.and_eq_true, decide_eq_true_eq]
  exact this

set_option maxHeartbeats 4000000 in
set_option maxRecDepth 100000 in
theorem FnRenamed_walk (A B : Option Addr) (n c m d : Nat) (zs ks : List Int) (shift : Int) (w : World) (hz : IntsR w A n zs) (hk : IntsR w B m ks) (hn : n ≤ maxLen) (hnc : n ≤ c) (hm : m ≤ maxLen) (hmd : m ≤ d) :
    Calls Try.prog 5 #[.slice A n c, .slice B m d, .int .i64 shift] w fun e w' => e = .returned (.bool true) ∧ Below w.heap.size w w' := by
  obtain ⟨rs, hrs⟩ : ∃ rs, zs.take 300 = rs := ⟨_, rfl⟩
  obtain ⟨k, hkk⟩ : ∃ k, rankKeys rs.length ks = k := ⟨_, rfl⟩
  have HC := Lib.hid (ranked_tab A B n c m d zs ks w hz hk hn hnc hm hmd rs k hrs hkk)
  have hz3 : rs.length ≤ 300 := by rw [← hrs, List.length_take]; omega
  have hrn : rs.length ≤ n := by rw [← hrs, List.length_take, hz.1]; omega
  have hkin : ∀ x ∈ k, 0 ≤ x ∧ x < (rs.length : Int) := by rw [← hkk]; exact rankKeys_in rs.length ks
  have HZ := Lib.hid (show IntsR w A rs.length rs from by
    have := hz.cut rs.length hrn
    rwa [show zs.take rs.length = rs from by
      rw [← hrs, List.length_take]
      by_cases h : 300 ≤ zs.length
      · rw [Nat.min_eq_left h]
      · rw [Nat.min_eq_right (by omega), List.take_of_length_le (Nat.le_refl _), List.take_of_length_le (by omega)]] at this)
  have HKI := Lib.hid hkin
  clear hz hk hn hnc hm hmd hrs hkk hkin
  go_enter Try.func5, Try.ntmps5
  go_wp2_with fail
  refine HC.out.mono ?_
  rintro e w1 ⟨b1, c1, L, b2, c2, M, rfl, hM, hM3, hT, hL, hK, hb1⟩
  have HM := Lib.hid hM
  have HT := Lib.hid (TabB.made (rs.length : Int) c1 hT hL)
  have HK := Lib.hid (hK.alloc (.cells #[.int .i64 (rs.length : Int), .slice (some ⟨b1, 0, none⟩) L c1] 28))
  have HB := Lib.hid (hb1.alloc hb1.size (.cells #[.int .i64 (rs.length : Int), .slice (some ⟨b1, 0, none⟩) L c1] 28))
  clear hM hT hL hK hb1 HC
  go_upto_region 2 with fail
  generalize w1.alloc (.cells #[.int .i64 (rs.length : Int), .slice (some ⟨b1, 0, none⟩) L c1] 28) = w2 at HT HK HB ⊢
  generalize w1.heap.size = tb at HT ⊢
  obtain ⟨_, x0, x1, _, _⟩ := HT.out
  obtain ⟨N, hN⟩ : ∃ N, N = rs.length := ⟨_, rfl⟩
  rw [← hN] at x0 hz3 hrn
  have HN := Lib.hid hN
  clear hN
  by_cases hN0 : N = 0
  · subst hN0
    go_wp2_with fail
    go_ret
    exact ⟨rfl, HB.out⟩
  have hN0z : ((N : Int) == 0) = false := by rw [beq_eq_false_iff_ne]; omega
  by_cases hs1 : shift < 0
  · go_wp2_with fail
    go_ret
    exact ⟨rfl, HB.out⟩
  by_cases hs2 : (N : Int) ≤ shift
  · go_wp2_with fail
    go_ret
    exact ⟨rfl, HB.out⟩
  obtain ⟨sh, rfl⟩ : ∃ sh : Nat, shift = sh := ⟨shift.toNat, by omega⟩
  have hsn : sh < N := by omega
  have hs2' : ¬ (N : Int) ≤ (sh : Int) := hs2
  clear hs1 hs2
  go_wp2_with (at_make; refine wpList_makeZ rfl (.tmp 40) (.tmp 40) rfl w2.heap.size N rfl rfl (by omega) (Nat.le_refl _) ?_; intro w3 hown3 hgrow3)
  have hb3 : Below w2.heap.size w2 w3 := (Below.refl _ _).grown hgrow3.out (Nat.le_refl _) (fun k hk => by cases hk)
  have HO3 := Lib.hid (And.intro hown3.out.2 hb3)
  clear hown3 hgrow3 hb3 x0 x1
  generalize hob : w2.heap.size = ob at HO3 ⊢
  have HOB := Lib.hid hob
  clear hob
  go_loopg [10] N (fun g vi wr => ∃ (i : Nat), vi = .int .i64 i ∧ i ≤ N ∧ N - i ≤ g ∧ Hid (∃ os : List Int, os.length = N ∧ OwnZ wr ob ob N os ∧ (∀ j, j < i → os.getD ((j + sh) % N) 0 = rs.getD j 0) ∧ Below w2.heap.size w2 wr))
  case atStart => exact ⟨0, rfl, by omega, by omega, ⟨List.replicate N 0, by simp, HO3.out.1, fun j hj => absurd hj (by omega), by rw [HOB.out]; exact HO3.out.2⟩⟩
  case round =>
    obtain ⟨i, rfl, hiN, hg, HR⟩ := hrel
    obtain ⟨os, hol, how, hos, hbw⟩ := HR.out
    have HOW := Lib.hid (And.intro hol (And.intro how (And.intro hos hbw)))
    clear hol how hos hbw HR
    have HTR := Lib.hid (HT.out.below HOW.out.2.2.2)
    obtain ⟨htl, x0, x1, _, _⟩ := HTR.out
    rw [← HN.out] at x0
    by_cases hlt : i < N
    · have hltz : (i : Int) < (N : Int) := by omega
      have hin : (i : Int) < (n : Int) := by omega
      obtain ⟨bz, oz, rfl, hbz, hcz⟩ := HZ.out.2 (by rw [← HN.out]; omega)
      have ci : wr.cell? ⟨bz, oz + i, none⟩ = some (.int .i64 (rs.getD i 0)) := ((HB.out.trans (HOW.out.2.2.2.mono HB.out.size)).cell (p := ⟨bz, oz + i, none⟩) hbz).trans (hcz i (by rw [← HN.out]; exact hlt))
      obtain ⟨p, hp⟩ : ∃ p, p = (i + sh) % N := ⟨_, rfl⟩
      have hpN : p < N := by rw [hp]; exact Nat.mod_lt _ (by omega)
      have hE : ((i : Int) + (sh : Int)).tmod (N : Int) = (p : Int) := by rw [hp, ← Int.natCast_add]; rfl
      have hpz : (p : Int) < (N : Int) := by omega
      have hwp : IntKind.i64.wrap (p : Int) = (p : Int) := by rw [IntKind.wrap_i64]; omega
      obtain ⟨oc, of⟩ := HOW.out.2.1.at_ p (by rw [HOW.out.1]; exact hpN)
      have ntb : tb ≠ ob := by have := HT.out.1; rw [← HOB.out]; omega
      have ntb' : ob ≠ tb := ntb.symm
      have nbz : bz ≠ ob := by have := HB.out.size; rw [← HOB.out]; omega
      have nbz' : ob ≠ bz := nbz.symm
      have HSET := Lib.hid (HOW.out.2.1.set p (rs.getD i 0))
      have HBS := Lib.hid (HOW.out.2.2.2.setCell (p := ⟨ob, p, none⟩) (by show w2.heap.size ≤ ob; rw [HOB.out]; exact Nat.le_refl _) (.int .i64 (rs.getD i 0)))
      have HOS := Lib.hid (show ∀ j, j < i + 1 → (os.set p (rs.getD i 0)).getD ((j + sh) % N) 0 = rs.getD j 0 from fun j hj => by
        have hl := HOW.out.1
        by_cases e : j = i
        · subst e
          rw [← hp, getD_at _ 0 p (by rw [List.length_set]; omega), List.getElem_set_self]
        · have hne : p ≠ (j + sh) % N := fun h => e (name_inj (by omega) hlt (by rw [← h, hp]))
          have hm := Nat.mod_lt (j + sh) (show 0 < N by omega)
          rw [getD_at _ 0 _ (by rw [List.length_set]; omega), List.getElem_set_ne hne, ← getD_at os 0 _ (by omega)]
          exact HOW.out.2.2.1 j (by omega))
      have HP := Lib.hid hp
      generalize rs.getD i 0 = x at ci HSET HBS HOS
      clear hcz hp
      go_upto_region 8 with fail
      go_region
      all_goals
        go_wp2_with fail
        go_roundg (N - (i + 1))
        case measure => omega
        case rel => exact ⟨i + 1, by go_num, by omega, Nat.le_refl _, (show Hid _ from ⟨os.set p x, by rw [List.length_set]; exact HOW.out.1, HSET.out.below (below_d _), HOS.out, ⟨HBS.out.os, HBS.out.tape, HBS.out.output, HBS.out.size, HBS.out.block⟩⟩)⟩
    · have hltz : ¬ (i : Int) < (N : Int) := by omega
      obtain rfl : i = N := by omega
      have HBR := Lib.hid (HB.out.trans (HOW.out.2.2.2.mono HB.out.size))
      have HKR := Lib.hid (HK.out.below HOW.out.2.2.2)
      have hoi : IntsR wr (some ⟨ob, 0, none⟩) i os := by have := HOW.out.2.1.ints; rw [HOW.out.1] at this; exact this
      have HOI := Lib.hid (And.intro hoi (And.intro HOW.out.1 HOW.out.2.2.1))
      clear hoi HOW hg HB HK HT HO3 HOB
      go_wp2_with fail
      go_loopg [11, 63] M (fun g v vi wr2 => ∃ (j b cc : Nat), v = .slice (some ⟨b, 0, none⟩) j cc ∧ vi = .int .i64 j ∧ j ≤ M ∧ M - j ≤ g ∧ Hid (j = ((k.map (nameOf i sh)).take j).length ∧ OwnZ wr2 wr.heap.size b cc ((k.map (nameOf i sh)).take j) ∧ Below wr.heap.size wr wr2))
      case atStart => exact ⟨0, wr.heap.size, 0, rfl, rfl, by omega, by omega, by simp, by rw [List.take_zero]; exact OwnZ.made wr, below_a _ _⟩
      case round =>
        obtain ⟨j, b, cc, rfl, rfl, hjM, hg, HR2⟩ := hrel
        have HT2 := Lib.hid (HTR.out.below HR2.out.2.2)
        clear x0 x1 htl
        obtain ⟨htl, x0, x1, _, _⟩ := HT2.out
        rw [← HN.out] at x0
        by_cases hlt2 : j < M
        · have hltz2 : (j : Int) < (M : Int) := by omega
          obtain ⟨bk, o, he, hbk, hck⟩ := HKR.out.2 (by omega)
          injection he with he
          injection he with e1 e2
          subst e1 e2
          have cj : wr.cell? ⟨b2, j, none⟩ = some (.int .i64 (k.getD j 0)) := by have := (HR2.out.2.2.cell (p := ⟨b2, 0 + j, none⟩) hbk).trans (hck j hlt2); rwa [Nat.zero_add] at this
          have hkj := HKI.out (k.getD j 0) (by rw [getD_at k 0 j (by rw [← HM.out]; exact hlt2)]; exact List.getElem_mem _)
          rw [← HN.out] at hkj
          have HT1 := Lib.hid (map_take_succ (nameOf i sh) k j 0 (by rw [← HM.out]; exact hlt2))
          obtain ⟨y, hy⟩ : ∃ y : Nat, k.getD j 0 = y := ⟨(k.getD j 0).toNat, by omega⟩
          rw [hy] at cj HT1 hkj
          have hyN : y < i := by omega
          obtain ⟨p, hp⟩ : ∃ p, p = (y + sh) % i := ⟨_, rfl⟩
          have hnm : nameOf i sh (y : Int) = (p : Int) := by unfold nameOf; rw [Int.toNat_natCast, hp]
          rw [hnm] at HT1
          have hpN : p < i := by rw [hp]; exact Nat.mod_lt _ (by omega)
          have hE : ((y : Int) + (sh : Int)).tmod (i : Int) = (p : Int) := by rw [hp, ← Int.natCast_add]; rfl
          have hwp : IntKind.i64.wrap (p : Int) = (p : Int) := by rw [IntKind.wrap_i64]; omega
          have HO := Lib.hid (And.intro HR2.out.1 (HR2.out.2.1.alloc (.cells #[.int .i64 (p : Int)] 3)))
          have HS := Lib.hid (IntsR.one wr (p : Int))
          have hbb := HR2.out.2.1.lt.1
          have hsz := HR2.out.2.2.size
          clear hck hbk hp hnm hy hkj
          go_wp2_with (at_builtin; refine wpList_appZ rfl (.tmp 67) (.tmp 74) rfl _ b cc j _ rfl HO.out wr.heap.size 0 1 1 [(p : Int)] rfl HS.out (by omega) (by simp; omega) ?_; intro b5 c5 w5 hown5 hgrow5)
          go_roundg (M - (j + 1))
          case measure => omega
          case rel =>
            refine ⟨j + 1, b5, c5, rfl, by go_num, by omega, Nat.le_refl _, (show Hid _ from ?_)⟩
            rw [HT1.out]
            exact ⟨hown5.out.1, hown5.out.2, below_app (HR2.out.2.2.alloc hsz _) hgrow5.out (by simp; omega) hbb⟩
        · have hltz2 : ¬ (j : Int) < (M : Int) := by omega
          obtain rfl : j = M := by omega
          have hnl : (k.map (nameOf i sh)).length = j := by rw [List.length_map, HM.out]
          have hnm := HR2.out.2.1
          rw [List.take_of_length_le (by rw [hnl]; exact Nat.le_refl _)] at hnm
          have hjc : j ≤ cc := by
            rcases hnm.2 with ⟨e, _⟩ | ⟨g, cap, cur, e, h3, r⟩
            · injection e with e; cases e
            · injection e with e1 e2 e3; have := r.1; omega
          have hni := hnm.ints
          rw [hnl] at hni
          have hin2 : rs.length = i := HN.out.symm
          obtain ⟨hoi, hol, hos⟩ := HOI.out
          obtain ⟨hR1, hR2⟩ := renamed_sorted rs os k sh (by omega) (by omega) (by omega) (by rw [hin2]; exact hos) HKI.out
          rw [hin2] at hR1 hR2
          have hko : rankKeys os.length (k.map (nameOf i sh)) = k.map (nameOf i sh) := rankKeys_all _ _ hR1 (by omega)
          have hot : os.take 300 = os := List.take_of_length_le (by omega)
          have HNI := Lib.hid hni
          have HQ := Lib.hid (And.intro hot hko)
          have HF := Lib.hid (show (sorted (ltT (os.length : Int) (rankT os)) (ents (k.map (nameOf i sh)))).map Prod.snd = (sorted (ltT (rs.length : Int) (rankT rs)) (ents k)).map Prod.snd from by rw [hin2]; exact hR2)
          have HOI2 := Lib.hid (hoi.below HR2.out.2.2)
          have HB2 := Lib.hid (HBR.out.trans (HR2.out.2.2.mono HBR.out.size))
          have HK2 := Lib.hid (HKR.out.below HR2.out.2.2)
          have HOL := Lib.hid hol
          clear hnl hnm hni hin2 hoi hol hos hR1 hR2 hko hot HR2 hg HOI HBR HKR HTR HKI x0 x1 htl
          generalize hnmg : k.map (nameOf i sh) = nm at HNI HQ HF
          clear hnmg
          go_wp2_with fail
          refine (ranked_tab _ _ i i j cc os nm wr HOI2.out HNI.out (by unfold maxLen; omega) (Nat.le_refl _) (by unfold maxLen; omega) hjc os nm HQ.out.1 HQ.out.2).mono ?_
          rintro e w4 ⟨b3, c3, L', b4, c4, M', rfl, hM', hM3', hT', hL', hK', hb4⟩
          have hbt := hb4.alloc hb4.size (.cells #[.int .i64 (os.length : Int), .slice (some ⟨b3, 0, none⟩) L' c3] 28)
          have HU := Lib.hid (TabB.made (os.length : Int) c3 hT' hL')
          have HTA := Lib.hid (HT2.out.below hbt)
          have HAK := Lib.hid (HK2.out.below hbt)
          have HAN := Lib.hid (HNI.out.below hbt)
          have HBA := Lib.hid (HB2.out.trans (hbt.mono HB2.out.size))
          clear hM' hM3' hT' hL' hK' hb4 hbt HT2 HK2 HNI HB2 HOI2 HQ
          go_wp2_with fail
          generalize w4.alloc (.cells #[.int .i64 (os.length : Int), .slice (some ⟨b3, 0, none⟩) L' c3] 28) = wa at HU HTA HAK HAN HBA ⊢
          generalize w4.heap.size = ub at HU ⊢
          obtain ⟨_, x0, x1, _, _⟩ := HTA.out
          go_cut [16] (fun v wx => ∃ bx, v = .pointer (some ⟨bx, 0, none⟩) ∧ Hid (Box3 wx bx j (sorted (ltT (rs.length : Int) (rankT rs)) (ents k)) ∧ Below wa.heap.size wa wx))
          case first =>
            as_aux_lemma =>
              have na : tb ≠ wa.heap.size := Nat.ne_of_lt HTA.out.1
              have na' : wa.heap.size ≠ tb := na.symm
              go_region_held3 (fun w' => w'.cell? ⟨tb, 0, none⟩ = some (.int .i64 (rs.length : Int)) ∧ w'.cell? ⟨tb, 1, none⟩ = some (.slice (some ⟨b1, 0, none⟩) L c1)) (go_keep)
                (first
                  | (go_at_call 12; refine (entries_tab _ j _ k _ (HAK.out.below (by first | exact below_d _ | exact below_da _ _)) (by omega)).mono ?_; rintro e wb ⟨bb, cb, rfl, hitb, hl3, hc3, hbb⟩; have HIB := Lib.hid (And.intro hitb (show Below wa.heap.size wa wb from by first | exact (below_d _).trans (hbb.mono (below_d _).size) | exact (below_da _ _).trans (hbb.mono (below_da _ _).size))); (first | (have HZ3 := Lib.hid (z3d hbb)) | skip); have HTB := Lib.hid (HTA.out.below HIB.out.2); obtain ⟨_, k0, k1, _, _⟩ := HTB.out; have nb : tb ≠ wb.heap.size := Nat.ne_of_lt HTB.out.1; have nb' : wb.heap.size ≠ tb := nb.symm; clear hitb hbb hl3 hc3)
                  | (go_at_call 11; refine (roads_any _ _ L c1 (rankT rs) bb 0 j cb (ents k) _ (HTB.out.below (by first | exact Below.refl _ _ | exact below_a _ _)).2.2.2.1 HTB.out.2.2.2.2 (HIB.out.1.below (by first | exact Below.refl _ _ | exact below_a _ _)) (by omega)).mono ?_; rintro e wc ⟨p0, d0, p1, d1, p2, d2, rfl, hrd, hbc⟩; have hbc' : Below wb.heap.size wb wc := (by first | exact hbc | exact (below_a _ _).trans (hbc.mono (below_a _ _).size)); have HRD := Lib.hid (And.intro hrd (HIB.out.2.trans (hbc'.mono HIB.out.2.size))); (first | (have HZ3 := Lib.hid (z3 hbc)) | (replace HZ3 := Lib.hid (HZ3.out.below hbc')) | skip); (first | (obtain ⟨z0, z1, z2, g0, g1, g2, _⟩ := HZ3.out) | skip); have HTC := Lib.hid (HTB.out.below hbc'); obtain ⟨_, k2, k3, _, _⟩ := HTC.out; clear hrd hbc hbc'))
              all_goals
                go_wp2_with fail
                go_meet
                first
                  | exact ⟨_, rfl, Box3.made HRD.out.1, HRD.out.2.alloc HRD.out.2.size _⟩
                  | exact ⟨_, rfl, Box3.stored HRD.out.1 HZ3.out, below_stored HRD.out.2 (by first | exact Nat.le_refl _ | exact HIB.out.2.size)⟩
          case rest =>
            obtain ⟨ab, rfl, HCUT⟩ := hcut
            have HA := Lib.hid HCUT.out.1
            have HU2 := Lib.hid (HU.out.below HCUT.out.2)
            have HN2 := Lib.hid (HAN.out.below HCUT.out.2)
            have HB2 := Lib.hid (HBA.out.trans (HCUT.out.2.mono HBA.out.size))
            clear HCUT HU HTA HAK HAN HBA x0 x1
            generalize wc = wa at *
            obtain ⟨_, x0, x1, _, _⟩ := HU2.out
            go_wp2_with fail
            go_cut [17] (fun v wx => ∃ bx, v = .pointer (some ⟨bx, 0, none⟩) ∧ Hid (Box3 wx bx j (sorted (ltT (os.length : Int) (rankT os)) (ents nm)) ∧ Below wa.heap.size wa wx))
            case first =>
              as_aux_lemma =>
                have na : ub ≠ wa.heap.size := Nat.ne_of_lt HU2.out.1
                have na' : wa.heap.size ≠ ub := na.symm
                go_region_held3 (fun w' => w'.cell? ⟨ub, 0, none⟩ = some (.int .i64 (os.length : Int)) ∧ w'.cell? ⟨ub, 1, none⟩ = some (.slice (some ⟨b3, 0, none⟩) L' c3)) (go_keep)
                  (first
                    | (go_at_call 12; refine (entries_tab _ j _ nm _ (HN2.out.below (by first | exact below_d _ | exact below_da _ _)) (by omega)).mono ?_; rintro e wb ⟨bb, cb, rfl, hitb, hl3, hc3, hbb⟩; have HIB := Lib.hid (And.intro hitb (show Below wa.heap.size wa wb from by first | exact (below_d _).trans (hbb.mono (below_d _).size) | exact (below_da _ _).trans (hbb.mono (below_da _ _).size))); (first | (have HZ3 := Lib.hid (z3d hbb)) | skip); have HTB := Lib.hid (HU2.out.below HIB.out.2); obtain ⟨_, k0, k1, _, _⟩ := HTB.out; have nb : ub ≠ wb.heap.size := Nat.ne_of_lt HTB.out.1; have nb' : wb.heap.size ≠ ub := nb.symm; clear hitb hbb hl3 hc3)
                    | (go_at_call 11; refine (roads_any _ _ L' c3 (rankT os) bb 0 j cb (ents nm) _ (HTB.out.below (by first | exact Below.refl _ _ | exact below_a _ _)).2.2.2.1 HTB.out.2.2.2.2 (HIB.out.1.below (by first | exact Below.refl _ _ | exact below_a _ _)) (by omega)).mono ?_; rintro e wc ⟨p0, d0, p1, d1, p2, d2, rfl, hrd, hbc⟩; have hbc' : Below wb.heap.size wb wc := (by first | exact hbc | exact (below_a _ _).trans (hbc.mono (below_a _ _).size)); have HRD := Lib.hid (And.intro hrd (HIB.out.2.trans (hbc'.mono HIB.out.2.size))); (first | (have HZ3 := Lib.hid (z3 hbc)) | (replace HZ3 := Lib.hid (HZ3.out.below hbc')) | skip); (first | (obtain ⟨z0, z1, z2, g0, g1, g2, _⟩ := HZ3.out) | skip); have HTC := Lib.hid (HTB.out.below hbc'); obtain ⟨_, k2, k3, _, _⟩ := HTC.out; clear hrd hbc hbc'))
                all_goals
                  go_wp2_with fail
                  go_meet
                  first
                    | exact ⟨_, rfl, Box3.made HRD.out.1, HRD.out.2.alloc HRD.out.2.size _⟩
                    | exact ⟨_, rfl, Box3.stored HRD.out.1 HZ3.out, below_stored HRD.out.2 (by first | exact Nat.le_refl _ | exact HIB.out.2.size)⟩
            case rest =>
              obtain ⟨bx, rfl, HCUT⟩ := hcut
              have HBX := Lib.hid HCUT.out.1
              have HAX := Lib.hid (HA.out.below HCUT.out.2)
              have HBC := Lib.hid (HB2.out.trans (HCUT.out.2.mono HB2.out.size))
              clear HCUT HU2 HN2 HB2 HA x0 x1
              generalize sorted (ltT (rs.length : Int) (rankT rs)) (ents k) = SA at HAX HF
              generalize sorted (ltT (os.length : Int) (rankT os)) (ents nm) = SB at HBX HF
              go_wp2_with fail
              go_loopg [91] 3 (fun g vi wr => ∃ (u : Nat), vi = .int .i64 u ∧ u ≤ 3 ∧ 3 - u ≤ g ∧ Hid (Below wc.heap.size wc wr))
              case atStart => exact ⟨0, rfl, by omega, by omega, Below.refl _ _⟩
              case round =>
                obtain ⟨u, rfl, hu3, hg, HR⟩ := hrel
                by_cases hltu : u < 3
                · have hltzu : (u : Int) < 3 := by omega
                  have HAU := Lib.hid (HAX.out.below HR.out)
                  have HBU := Lib.hid (HBX.out.below HR.out)
                  obtain ⟨xa, ca, ya, hia⟩ := HAU.out.at hltu
                  obtain ⟨xb, cb, yb, hib⟩ := HBU.out.at hltu
                  have hsa : ab < wr.heap.size := by obtain ⟨_, _, _, _, _, _, h, _⟩ := HAU.out; exact h
                  have hsb : bx < wr.heap.size := by obtain ⟨_, _, _, _, _, _, h, _⟩ := HBU.out; exact h
                  have HIA := Lib.hid hia
                  have HIB := Lib.hid hib
                  have TR := Lib.hid (fun (W' : World) (hb : Below wr.heap.size wr W') => And.intro ((hb.cell (p := ⟨ab, u, none⟩) hsa).trans ya) ((hb.cell (p := ⟨bx, u, none⟩) hsb).trans yb))
                  clear hia hib HAU HBU hsa hsb
                  go_wp2_with fail
                  go_loopg [114] j (fun g vi wr2 => ∃ (z : Nat), vi = .int .i64 z ∧ z ≤ j ∧ j - z ≤ g ∧ Hid (Below wr.heap.size wr wr2))
                  case atStart => exact ⟨0, rfl, by omega, by omega, Below.refl _ _⟩
                  case round =>
                    obtain ⟨z, rfl, hzj, hg2, HR2⟩ := hrel
                    clear ya yb
                    obtain ⟨ya, yb⟩ := TR.out _ HR2.out
                    by_cases hltz' : z < j
                    · have hltzz : (z : Int) < (j : Int) := by omega
                      obtain ⟨y1, y2⟩ := (HIA.out.below HR2.out).2.2 z hltz'
                      obtain ⟨v1, v2⟩ := (HIB.out.below HR2.out).2.2 z hltz'
                      simp only [Nat.zero_add] at y2 v2
                      have htag : (SB.getD z (0, 0)).2 = (SA.getD z (0, 0)).2 := by
                        have h1 := HIA.out.1
                        have h2 := HIB.out.1
                        rw [getD_at SB _ z (by omega), getD_at SA _ z (by omega)]
                        have := HF.out
                        have e1 : (SB.map Prod.snd)[z]? = (SA.map Prod.snd)[z]? := by rw [this]
                        rw [List.getElem?_map, List.getElem?_map, List.getElem?_eq_getElem (by omega), List.getElem?_eq_getElem (by omega)] at e1
                        simp only [Option.map_some, Option.some.injEq] at e1
                        exact e1
                      rw [htag] at v2
                      generalize (SA.getD z (0, 0)).2 = tg at y2 v2
                      clear y1 v1 htag
                      go_upto_region 26 with fail
                      go_quiet (fail)
                      go_wp2_with fail
                      go_roundg (j - (z + 1))
                      case measure => omega
                      case rel => exact ⟨z + 1, by go_num, by omega, Nat.le_refl _, (show Hid _ from below_drewN HR2.out _)⟩
                    · have hltzz : ¬ (z : Int) < (j : Int) := by omega
                      go_wp2_with fail
                      go_roundg (3 - (u + 1))
                      case measure => omega
                      case rel => exact ⟨u + 1, by go_num, by omega, Nat.le_refl _, (show Hid _ from HR.out.trans (HR2.out.mono HR.out.size))⟩
                · have hltzu : ¬ (u : Int) < 3 := by omega
                  go_wp2_with fail
                  go_ret
                  exact ⟨rfl, HBC.out.trans (HR.out.mono HBC.out.size)⟩

theorem FnRenamed_said {A B : Option Addr} {n c m d : Nat} {zs ks : List Int} (w : World) (hz : IntsR w A n zs) (hnc : n ≤ c) (hc : c ≤ maxLen) (hk : IntsR w B m ks) (hmd : m ≤ d) (hd : d ≤ maxLen) (shift : Int) (_w : (Lit.int .i64 shift).wf = true) :
    Calls Try.prog 5 #[.slice A n c, .slice B m d, .int .i64 shift] w fun e w' => e = .returned (.bool true) ∧ Below w.heap.size w w' :=
  FnRenamed_walk A B n c m d zs ks shift w hz hk (Nat.le_trans hnc hc) hnc (Nat.le_trans hmd hd) hmd
end Go.Proofs.Ytdpomoengbpcaaa
