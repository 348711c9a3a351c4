/- Walks: laws.FnOneMore returns true. -/
import Derived.Test.YtdpomoengbpcaaaOneA
namespace Go.Proofs.Ytdpomoengbpcaaa
open Go.RowKit Go.Sort Go.Lib

/-- The block ab holds three slices with room for what they hold, each of which reads as the entries xs. -/
def Box3c (w : World) (ab m : Nat) (xs : List It) : Prop :=
  ∃ b0 c0 b1 c1 b2 c2, ab < w.heap.size ∧ w.cell? ⟨ab, 0, none⟩ = some (.slice (some ⟨b0, 0, none⟩) m c0) ∧ w.cell? ⟨ab, 1, none⟩ = some (.slice (some ⟨b1, 0, none⟩) m c1) ∧ w.cell? ⟨ab, 2, none⟩ = some (.slice (some ⟨b2, 0, none⟩) m c2) ∧ Rds w b0 b1 b2 m xs ∧ m ≤ c0 ∧ m ≤ c1 ∧ m ≤ c2
theorem Box3c.below {w w' : World} {ab m : Nat} {xs : List It} (h : Box3c w ab m xs) (hb : Below w.heap.size w w') : Box3c w' ab m xs := by
  obtain ⟨b0, c0, b1, c1, b2, c2, h0, h1, h2, h3, h4, h5⟩ := h
  exact ⟨b0, c0, b1, c1, b2, c2, Nat.lt_of_lt_of_le h0 hb.size, (hb.cell (p := ⟨ab, 0, none⟩) h0).trans h1, (hb.cell (p := ⟨ab, 1, none⟩) h0).trans h2, (hb.cell (p := ⟨ab, 2, none⟩) h0).trans h3, h4.below hb, h5⟩
theorem Box3c.made {w : World} {b0 c0 b1 c1 b2 c2 m : Nat} {xs : List It} (h : Rds w b0 b1 b2 m xs) (hc : m ≤ c0 ∧ m ≤ c1 ∧ m ≤ c2) : Box3c (w.alloc (.cells #[.slice (some ⟨b0, 0, none⟩) m c0, .slice (some ⟨b1, 0, none⟩) m c1, .slice (some ⟨b2, 0, none⟩) m c2] 25)) w.heap.size m xs :=
  ⟨b0, c0, b1, c1, b2, c2, by simp, by simp, by simp, by simp, h.below ((Below.refl _ _).alloc (Nat.le_refl _) _), hc⟩
theorem Box3c.at {w : World} {ab m : Nat} {xs : List It} (h : Box3c w ab m xs) {i : Nat} (hi : i < 3) : ∃ b c, w.cell? ⟨ab, i, none⟩ = some (.slice (some ⟨b, 0, none⟩) m c) ∧ ItemsR w b 0 m xs ∧ m ≤ c ∧ ab < w.heap.size := by
  obtain ⟨b0, c0, b1, c1, b2, c2, h0, h1, h2, h3, h4, h5, h6, h7⟩ := h
  rcases (by omega : i = 0 ∨ i = 1 ∨ i = 2) with rfl | rfl | rfl
  · exact ⟨b0, c0, h1, h4.1, h5, h0⟩
  · exact ⟨b1, c1, h2, h4.2.1, h6, h0⟩
  · exact ⟨b2, c2, h3, h4.2.2, h7, h0⟩
theorem Box3.at' {w : World} {ab m : Nat} {xs : List It} (h : Box3 w ab m xs) {i : Nat} (hi : i < 3) : ∃ b c, w.cell? ⟨ab, i, none⟩ = some (.slice (some ⟨b, 0, none⟩) m c) ∧ ItemsR w b 0 m xs ∧ ab < w.heap.size := by
  obtain ⟨b, c, h1, h2⟩ := h.at hi
  obtain ⟨_, _, _, _, _, _, h0, _⟩ := h
  exact ⟨b, c, h1, h2, h0⟩
theorem countP_take_succ {α : Type} (p : α → Bool) (l : List α) (k : Nat) (d : α) (h : k < l.length) : (l.take (k + 1)).countP p = (l.take k).countP p + if p (l.getD k d) = true then 1 else 0 := by
  rw [List.take_succ_eq_append_getElem h, List.countP_append, getD_at l d k h, List.countP_singleton]
theorem put_at (bl m k cl bw cw : Nat) (xs : List It) (x : It) (w : World) (hx : ItemsR w bl 0 m xs) (hc : m ≤ cl) (hk : k ≤ m) (hw : ItemsR w bw 0 (m + 1) (xs.take k ++ x :: xs.drop k)) (hm : m ≤ 100000) :
    Calls Try.prog 16 #[.slice (some ⟨bl, 0, none⟩) m cl, .int .i64 k, .agg #[.int .i64 x.1, .int .i64 x.2], .slice (some ⟨bw, 0, none⟩) (m + 1) cw] w fun e w' => e = .returned (.bool true) ∧ Below w.heap.size w w' := by
  obtain ⟨r, rfl⟩ : ∃ r, m = k + r := ⟨m - k, by omega⟩
  have h := put_yes bl k r cl bw cw xs x w hx hc (by rw [show k + 1 + r = k + r + 1 by omega]; exact hw) hm
  rw [show k + 1 + r = k + r + 1 by omega] at h
  exact h
/-- An entry with the key y, put in at the end or at the beginning. -/
theorem one_more (rs k : List Int) (y : Nat) (h3 : rs.length ≤ 1000) (hy : y < rs.length) (hk : ∀ x ∈ k, 0 ≤ x ∧ x < (rs.length : Int)) :
    (sorted (ltT (rs.length : Int) (rankT rs)) (ents k ++ [((y : Int), (-1 : Int))]) = (sorted (ltT (rs.length : Int) (rankT rs)) (ents k)).take (k.countP fun x => decide (sg (rs.length : Int) (rankT rs) x y ≤ 0)) ++ ((y : Int), (-1 : Int)) :: (sorted (ltT (rs.length : Int) (rankT rs)) (ents k)).drop (k.countP fun x => decide (sg (rs.length : Int) (rankT rs) x y ≤ 0))) ∧
    (sorted (ltT (rs.length : Int) (rankT rs)) (((y : Int), (-1 : Int)) :: ents k) = (sorted (ltT (rs.length : Int) (rankT rs)) (ents k)).take (k.countP fun x => decide (sg (rs.length : Int) (rankT rs) x y < 0)) ++ ((y : Int), (-1 : Int)) :: (sorted (ltT (rs.length : Int) (rankT rs)) (ents k)).drop (k.countP fun x => decide (sg (rs.length : Int) (rankT rs) x y < 0))) := by
  have hW := rank_weak rs h3
  have hP : ∀ x ∈ ((y : Int), (-1 : Int)) :: ents k, 0 ≤ x.1 ∧ x.1 < (rs.length : Int) := fun x hx => by
    rcases List.mem_cons.1 hx with rfl | h
    · exact ⟨by show (0 : Int) ≤ (y : Int); omega, by show (y : Int) < _; omega⟩
    · exact ents_keys hk x h
  have hw : Weak (ltT (rs.length : Int) (rankT rs)) (· ∈ ((y : Int), (-1 : Int)) :: ents k) := hW.weak hP
  have hn : (((y : Int), (-1 : Int)) :: ents k).Nodup := List.nodup_cons.2 ⟨fun h => by
    obtain ⟨i, _, e⟩ := ents_mem h
    injection e with _ e2
    omega, ents_nodup k⟩
  have hc : ∀ (b : It → Bool) (c : Int → Bool), (∀ x ∈ ents k, b x = c x.1) → (ents k).countP b = k.countP c := fun b c h => by
    have e : (ents k).map Prod.fst = k := by
      refine List.ext_getElem? fun i => ?_
      by_cases hi : i < k.length
      · rw [List.getElem?_map, ents_at k i hi, List.getElem?_eq_getElem hi, getD_at k 0 i hi]; rfl
      · rw [List.getElem?_eq_none (by rw [List.length_map, ents_length]; omega), List.getElem?_eq_none (by omega)]
    have e2 : k.countP c = (ents k).countP (fun x => c x.1) := by
      have h2 := List.countP_map (p := c) (f := Prod.fst) (l := ents k)
      rw [e] at h2
      exact h2
    rw [e2]
    exact List.countP_congr fun x hx => by rw [h x hx]
  refine ⟨?_, ?_⟩
  · have h := sortedA_end hw hn
    rw [hc _ (fun x => decide (sg (rs.length : Int) (rankT rs) x y ≤ 0)) (fun x hx => by
      have an := hW.anti x.1 (y : Int) (hP x (by simp [hx])) (hP ((y : Int), (-1 : Int)) (by simp))
      have lt := ltT_iff (rs.length : Int) (rankT rs) ((y : Int), (-1 : Int)) x
      refine Bool.eq_iff_iff.2 ?_
      rw [Bool.not_eq_true', decide_eq_true_iff]
      constructor
      · intro e
        have : ¬ sg (rs.length : Int) (rankT rs) (y : Int) x.1 < 0 := fun h => by rw [lt.2 h] at e; cases e
        omega
      · intro hle
        cases e : ltT (rs.length : Int) (rankT rs) ((y : Int), (-1 : Int)) x with
        | false => rfl
        | true =>
          have h7 : sg (rs.length : Int) (rankT rs) (y : Int) x.1 < 0 := lt.1 e
          omega)] at h
    exact h
  · have h := sortedA_begin hw hn
    rw [hc _ (fun x => decide (sg (rs.length : Int) (rankT rs) x y < 0)) (fun x hx => by
      have lt := ltT_iff (rs.length : Int) (rankT rs) x ((y : Int), (-1 : Int))
      simp only at lt
      exact Bool.eq_iff_iff.2 (lt.trans (decide_eq_true_iff).symm))] at h
    exact h

set_option maxHeartbeats 4000000 in
set_option maxRecDepth 100000 in
theorem FnOneMore_walk (A B : Option Addr) (n c m d : Nat) (zs ks : List Int) (key : Int) (w : World) (hz : IntsR w A n zs) (hk : IntsR w B m ks) (hn : n ≤ maxLen) (hnc : n ≤ c) (hm : m ≤ maxLen) (hmd : m ≤ d) :
    Calls Try.prog 4 #[.slice A n c, .slice B m d, .int .i64 key] w fun e w' => e = .returned (.bool true) ∧ Below w.heap.size w w' := by
  obtain ⟨rs, hrs⟩ : ∃ rs, zs.take 300 = rs := ⟨_, rfl⟩
  obtain ⟨k, hkk⟩ : ∃ k, rankKeys rs.length ks = k := ⟨_, rfl⟩
  have HC := Lib.hid (ranked_tab A B n c m d zs ks w hz hk hn hnc hm hmd rs k hrs hkk)
  have hz3 : rs.length ≤ 300 := by rw [← hrs, List.length_take]; omega
  have hkin : ∀ x ∈ k, 0 ≤ x ∧ x < (rs.length : Int) := by rw [← hkk]; exact rankKeys_in rs.length ks
  have hW := rank_weak rs (by omega)
  have hw : Weak (ltT (rs.length : Int) (rankT rs)) (· ∈ ents k) := hW.weak (ents_keys hkin)
  have HKI := Lib.hid hkin
  have HWK := Lib.hid hW
  clear hz hk hn hnc hm hmd hrs hkk hkin hW hw
  go_enter Try.func4, Try.ntmps4
  go_wp2_with fail
  refine HC.out.mono ?_
  rintro e w1 ⟨b1, c1, L, b2, c2, M, rfl, hM, hM3, hT, hL, hK, hb1⟩
  have HM := Lib.hid hM
  have HT := Lib.hid (TabB.made (rs.length : Int) c1 hT hL)
  have HK := Lib.hid (hK.alloc (.cells #[.int .i64 (rs.length : Int), .slice (some ⟨b1, 0, none⟩) L c1] 28))
  have HB := Lib.hid (hb1.alloc hb1.size (.cells #[.int .i64 (rs.length : Int), .slice (some ⟨b1, 0, none⟩) L c1] 28))
  clear hM hT hL hK hb1 HC
  go_upto_region 2 with fail
  generalize w1.alloc (.cells #[.int .i64 (rs.length : Int), .slice (some ⟨b1, 0, none⟩) L c1] 28) = w2 at HT HK HB ⊢
  generalize w1.heap.size = tb at HT ⊢
  obtain ⟨s1, x0, x1, _, _⟩ := HT.out
  by_cases h1 : key < 0
  · go_wp2_with fail
    go_ret
    exact ⟨rfl, HB.out⟩
  by_cases h2 : (rs.length : Int) ≤ key
  · go_wp2_with fail
    go_ret
    exact ⟨rfl, HB.out⟩
  obtain ⟨y, rfl⟩ : ∃ y : Nat, key = y := ⟨key.toNat, by omega⟩
  have hy : y < rs.length := by omega
  have h2' : ¬ (rs.length : Int) ≤ (y : Int) := h2
  have hpl := one_more rs k y (by omega) hy HKI.out
  have HPL := Lib.hid hpl
  clear h1 h2 s1 hpl
  go_wp2_with fail
  refine (entries_tab _ M c2 k w2 HK.out (by omega)).mono ?_
  rintro e w3 ⟨b3, c3, rfl, hit3, hl3, hc3, hb3⟩
  have HL := Lib.hid (hit3.alloc (.cells #[.int .i64 (y : Int), .int .i64 (-1)] 35))
  have HT3 := Lib.hid ((HT.out.below hb3).below (below_a _ (.cells #[.int .i64 (y : Int), .int .i64 (-1)] 35)))
  have HK3 := Lib.hid ((HK.out.below hb3).alloc (.cells #[.int .i64 (y : Int), .int .i64 (-1)] 35))
  have HB3 := Lib.hid ((HB.out.trans (hb3.mono HB.out.size)).alloc (Nat.le_trans HB.out.size hb3.size) (.cells #[.int .i64 (y : Int), .int .i64 (-1)] 35))
  have HMB := Lib.hid (show (w3.alloc (.cells #[.int .i64 (y : Int), .int .i64 (-1)] 35)).cell? ⟨w3.heap.size, 0, none⟩ = some (.int .i64 (y : Int)) ∧ (w3.alloc (.cells #[.int .i64 (y : Int), .int .i64 (-1)] 35)).cell? ⟨w3.heap.size, 1, none⟩ = some (.int .i64 (-1)) ∧ w3.heap.size < (w3.alloc (.cells #[.int .i64 (y : Int), .int .i64 (-1)] 35)).heap.size from ⟨by simp, by simp, by simp⟩)
  obtain ⟨_, t0, t1, _, _⟩ := HT3.out
  clear hit3 hl3 hc3 hb3 HT HB HK x0 x1
  go_wp2_with fail
  generalize w3.alloc (.cells #[.int .i64 (y : Int), .int .i64 (-1)] 35) = w4 at HL HT3 HK3 HB3 HMB t0 t1 ⊢
  generalize w3.heap.size = mb at HMB ⊢
  refine (roads_cap _ _ L c1 (rankT rs) b3 0 M c3 (ents k) w4 HT3.out.2.2.2.1 HT3.out.2.2.2.2 HL.out (by omega)).mono ?_
  rintro e w5 ⟨r0, q0, r1, q1, r2, q2, rfl, hrd, hcap, hb5⟩
  have hba := hb5.alloc hb5.size (.cells #[.slice (some ⟨r0, 0, none⟩) M q0, .slice (some ⟨r1, 0, none⟩) M q1, .slice (some ⟨r2, 0, none⟩) M q2] 25)
  have HA := Lib.hid (Box3c.made hrd hcap)
  have HLA := Lib.hid (HL.out.below hba)
  have HTA := Lib.hid (HT3.out.below hba)
  have HKA := Lib.hid (HK3.out.below hba)
  have HBA := Lib.hid (HB3.out.trans (hba.mono HB3.out.size))
  have HMA := Lib.hid (show (w5.alloc (.cells #[.slice (some ⟨r0, 0, none⟩) M q0, .slice (some ⟨r1, 0, none⟩) M q1, .slice (some ⟨r2, 0, none⟩) M q2] 25)).cell? ⟨mb, 0, none⟩ = some (.int .i64 (y : Int)) ∧ (w5.alloc (.cells #[.slice (some ⟨r0, 0, none⟩) M q0, .slice (some ⟨r1, 0, none⟩) M q1, .slice (some ⟨r2, 0, none⟩) M q2] 25)).cell? ⟨mb, 1, none⟩ = some (.int .i64 (-1)) ∧ mb < (w5.alloc (.cells #[.slice (some ⟨r0, 0, none⟩) M q0, .slice (some ⟨r1, 0, none⟩) M q1, .slice (some ⟨r2, 0, none⟩) M q2] 25)).heap.size from ⟨(hba.cell (p := ⟨mb, 0, none⟩) HMB.out.2.2).trans HMB.out.1, (hba.cell (p := ⟨mb, 1, none⟩) HMB.out.2.2).trans HMB.out.2.1, Nat.lt_of_lt_of_le HMB.out.2.2 hba.size⟩)
  clear hrd hcap hb5 hba HL HT3 HK3 HB3 HMB t0 t1
  go_wp2_with fail
  generalize w5.alloc (.cells #[.slice (some ⟨r0, 0, none⟩) M q0, .slice (some ⟨r1, 0, none⟩) M q1, .slice (some ⟨r2, 0, none⟩) M q2] 25) = wa at HA HLA HTA HKA HBA HMA ⊢
  generalize w5.heap.size = ab at HA ⊢
  obtain ⟨_, t0, t1, _, _⟩ := HTA.out
  obtain ⟨m0, m1, _⟩ := HMA.out
  go_cut [12] (fun v wx => ∃ bx, v = .pointer (some ⟨bx, 0, none⟩) ∧ Hid (Box3 wx bx (M + 1) (sorted (ltT (rs.length : Int) (rankT rs)) (ents k ++ [((y : Int), (-1 : Int))])) ∧ Below wa.heap.size wa wx))
  case first =>
    as_aux_lemma =>
      have BX := Lib.hid (fun (W : World) (hb : Below wa.heap.size wa W) => show (W.cell? ⟨tb, 0, none⟩ = some (.int .i64 (rs.length : Int)) ∧ W.cell? ⟨tb, 1, none⟩ = some (.slice (some ⟨b1, 0, none⟩) L c1) ∧ W.cell? ⟨mb, 0, none⟩ = some (.int .i64 (y : Int)) ∧ W.cell? ⟨mb, 1, none⟩ = some (.int .i64 (-1))) ∧ ItemsR W b3 0 M (ents k) ∧ IntsR W (some ⟨b1, 0, none⟩) L (rankT rs) from
        have ht := HTA.out.below hb
        ⟨⟨ht.2.1, ht.2.2.1, (hb.cell (p := ⟨mb, 0, none⟩) HMA.out.2.2).trans HMA.out.1, (hb.cell (p := ⟨mb, 1, none⟩) HMA.out.2.2).trans HMA.out.2.1⟩, HLA.out.below hb, ht.2.2.2.1⟩)
      have HLL := Lib.hid HTA.out.2.2.2.2
      have NE := Lib.hid (fun (W : World) (hb : Below wa.heap.size wa W) (q : Nat) => show (tb ≠ W.heap.size + q ∧ W.heap.size + q ≠ tb) ∧ (mb ≠ W.heap.size + q ∧ W.heap.size + q ≠ mb) from by
        have h1 := HTA.out.1
        have h2 := HMA.out.2.2
        have h3 := hb.size
        omega)
      obtain ⟨⟨na0, na1⟩, na2, na3⟩ := NE.out wa (Below.refl _ _) 0
      obtain ⟨⟨na4, na5⟩, na6, na7⟩ := NE.out wa (Below.refl _ _) 1
      obtain ⟨⟨na8, na9⟩, naa, nab⟩ := NE.out wa (Below.refl _ _) 2
      rw [Nat.add_zero] at na0 na1 na2 na3
      have nac : tb ≠ wa.heap.size + 1 + 1 := na8
      have nad : wa.heap.size + 1 + 1 ≠ tb := na9
      have nae : mb ≠ wa.heap.size + 1 + 1 := naa
      have naf : wa.heap.size + 1 + 1 ≠ mb := nab
      go_region_held3 (fun w' => w'.cell? ⟨tb, 0, none⟩ = some (.int .i64 (rs.length : Int)) ∧ w'.cell? ⟨tb, 1, none⟩ = some (.slice (some ⟨b1, 0, none⟩) L c1) ∧ w'.cell? ⟨mb, 0, none⟩ = some (.int .i64 (y : Int)) ∧ w'.cell? ⟨mb, 1, none⟩ = some (.int .i64 (-1))) (first | (refine (BX.out _ ?_).1; (repeat first | (with_reducible refine below_al ?_ _) | (with_reducible refine below_dw ?_)); with_reducible exact Below.refl _ _) | go_keep)
        (first
          | (go_at_call 11; refine (roads_any _ _ L c1 (rankT rs) b6 0 (M + 1) c6 (ents k ++ [((y : Int), (-1 : Int))]) _ (BX.out _ (by (repeat first | (with_reducible refine below_al ?_ _) | (with_reducible refine below_dw ?_)); exact HB6.out)).2.2 HLL.out (by (repeat first | (with_reducible refine ItemsR.alloc ?_ _) | (with_reducible refine ItemsR.dr ?_)); exact HI6.out) (by omega)).mono ?_; rintro e w7 ⟨p0, d0, p1, d1, p2, d2, rfl, hrd, hb7⟩; have HB7 := Lib.hid (show Below wa.heap.size wa w7 from below_then (by (repeat first | (with_reducible refine below_al ?_ _) | (with_reducible refine below_dw ?_)); exact HB6.out) hb7); have HRD := Lib.hid hrd; obtain ⟨⟨k0g, k1g, k2g, k3g⟩, _, _⟩ := BX.out w7 HB7.out; obtain ⟨⟨n0g, n1g⟩, n2g, n3g⟩ := NE.out w7 HB7.out 0; rw [Nat.add_zero] at n0g n1g n2g n3g; obtain ⟨⟨n4g, n5g⟩, n6g, n7g⟩ := NE.out w7 HB7.out 1; have hsg : wa.heap.size ≤ w7.heap.size := HB7.out.size; (first | (refine with_fact (P := Z3 w7 (wa.heap.size)) ?_ ?_; refine Z3h.z3 ?_; (repeat (first | ((with_reducible refine Z3h.at ?_); (first | rfl | simp)) | (with_reducible refine Z3h.alloc ?_ _) | (with_reducible refine Z3h.dr ?_) | (with_reducible refine Z3h.below ?_ hb7) | (with_reducible refine Z3h.grownO wa.heap.size c5 (ents k) ?_ hgrow6.out ?_) | (with_reducible refine Z3h.grownO wa.heap.size 0 [] ?_ hgrow5.out ?_) | ((with_reducible refine ownE _ _ _ ?_ ?_); (first | rfl | simp); (first | exact Nat.le_refl _ | omega)) | (with_reducible exact HO5.out.2) | (with_reducible refine OwnI.alloc ?_ _) | (with_reducible refine OwnI.dr ?_))); intro HZ; obtain ⟨z0, z1, z2, g0, g1, g2, _⟩ := HZ.out) | (refine with_fact (P := Z3 w7 (wa.heap.size + 1)) ?_ ?_; refine Z3h.z3 ?_; (repeat (first | ((with_reducible refine Z3h.at ?_); (first | rfl | simp)) | (with_reducible refine Z3h.alloc ?_ _) | (with_reducible refine Z3h.dr ?_) | (with_reducible refine Z3h.below ?_ hb7) | (with_reducible refine Z3h.grownO wa.heap.size c5 (ents k) ?_ hgrow6.out ?_) | (with_reducible refine Z3h.grownO wa.heap.size 0 [] ?_ hgrow5.out ?_) | ((with_reducible refine ownE _ _ _ ?_ ?_); (first | rfl | simp); (first | exact Nat.le_refl _ | omega)) | (with_reducible exact HO5.out.2) | (with_reducible refine OwnI.alloc ?_ _) | (with_reducible refine OwnI.dr ?_))); intro HZ; obtain ⟨z0, z1, z2, g0, g1, g2, _⟩ := HZ.out) | (refine with_fact (P := Z3 w7 (wa.heap.size + 2)) ?_ ?_; refine Z3h.z3 ?_; (repeat (first | ((with_reducible refine Z3h.at ?_); (first | rfl | simp)) | (with_reducible refine Z3h.alloc ?_ _) | (with_reducible refine Z3h.dr ?_) | (with_reducible refine Z3h.below ?_ hb7) | (with_reducible refine Z3h.grownO wa.heap.size c5 (ents k) ?_ hgrow6.out ?_) | (with_reducible refine Z3h.grownO wa.heap.size 0 [] ?_ hgrow5.out ?_) | ((with_reducible refine ownE _ _ _ ?_ ?_); (first | rfl | simp); (first | exact Nat.le_refl _ | omega)) | (with_reducible exact HO5.out.2) | (with_reducible refine OwnI.alloc ?_ _) | (with_reducible refine OwnI.dr ?_))); intro HZ; obtain ⟨z0, z1, z2, g0, g1, g2, _⟩ := HZ.out) | (refine with_fact (P := Z3 w7 (w5.heap.size)) ?_ ?_; refine Z3h.z3 ?_; (repeat (first | ((with_reducible refine Z3h.at ?_); (first | rfl | simp)) | (with_reducible refine Z3h.alloc ?_ _) | (with_reducible refine Z3h.dr ?_) | (with_reducible refine Z3h.below ?_ hb7) | (with_reducible refine Z3h.grownO wa.heap.size c5 (ents k) ?_ hgrow6.out ?_) | (with_reducible refine Z3h.grownO wa.heap.size 0 [] ?_ hgrow5.out ?_) | ((with_reducible refine ownE _ _ _ ?_ ?_); (first | rfl | simp); (first | exact Nat.le_refl _ | omega)) | (with_reducible exact HO5.out.2) | (with_reducible refine OwnI.alloc ?_ _) | (with_reducible refine OwnI.dr ?_))); intro HZ; obtain ⟨z0, z1, z2, g0, g1, g2, _⟩ := HZ.out) | (refine with_fact (P := Z3 w7 (w5.heap.size + 1)) ?_ ?_; refine Z3h.z3 ?_; (repeat (first | ((with_reducible refine Z3h.at ?_); (first | rfl | simp)) | (with_reducible refine Z3h.alloc ?_ _) | (with_reducible refine Z3h.dr ?_) | (with_reducible refine Z3h.below ?_ hb7) | (with_reducible refine Z3h.grownO wa.heap.size c5 (ents k) ?_ hgrow6.out ?_) | (with_reducible refine Z3h.grownO wa.heap.size 0 [] ?_ hgrow5.out ?_) | ((with_reducible refine ownE _ _ _ ?_ ?_); (first | rfl | simp); (first | exact Nat.le_refl _ | omega)) | (with_reducible exact HO5.out.2) | (with_reducible refine OwnI.alloc ?_ _) | (with_reducible refine OwnI.dr ?_))); intro HZ; obtain ⟨z0, z1, z2, g0, g1, g2, _⟩ := HZ.out) | (refine with_fact (P := Z3 w7 (w6.heap.size)) ?_ ?_; refine Z3h.z3 ?_; (repeat (first | ((with_reducible refine Z3h.at ?_); (first | rfl | simp)) | (with_reducible refine Z3h.alloc ?_ _) | (with_reducible refine Z3h.dr ?_) | (with_reducible refine Z3h.below ?_ hb7) | (with_reducible refine Z3h.grownO wa.heap.size c5 (ents k) ?_ hgrow6.out ?_) | (with_reducible refine Z3h.grownO wa.heap.size 0 [] ?_ hgrow5.out ?_) | ((with_reducible refine ownE _ _ _ ?_ ?_); (first | rfl | simp); (first | exact Nat.le_refl _ | omega)) | (with_reducible exact HO5.out.2) | (with_reducible refine OwnI.alloc ?_ _) | (with_reducible refine OwnI.dr ?_))); intro HZ; obtain ⟨z0, z1, z2, g0, g1, g2, _⟩ := HZ.out) | skip); clear hrd)
          | (refine step_appI rfl (.tmp 41) (.tmp 42) rfl wa.heap.size _ 0 0 [] rfl ?_ b3 0 M c3 (ents k) rfl ?_ ?_ ?_ ?_; exact Lib.hid (And.intro rfl (by (repeat (first | ((with_reducible refine ownE _ _ _ ?_ ?_); (first | rfl | simp); (first | exact Nat.le_refl _ | omega)) | (with_reducible refine OwnI.alloc ?_ _) | (with_reducible refine OwnI.dr ?_))))); exact Lib.hid (BX.out _ (by (repeat first | (with_reducible refine below_al ?_ _) | (with_reducible refine below_dw ?_)); exact Below.refl _ _)).2.1; omega; exact below_le (by (repeat first | (with_reducible refine below_al ?_ _) | (with_reducible refine below_dw ?_)); exact Below.refl _ _); intro b5 c5 w5 hown5 hgrow5; have HB5 := Lib.hid (show Below wa.heap.size wa w5 from below_grown (by (repeat first | (with_reducible refine below_al ?_ _) | (with_reducible refine below_dw ?_)); exact Below.refl _ _) hgrow5.out (by first | exact Nat.le_refl _ | omega)); have HO5 := Lib.hid (show M = (ents k).length ∧ OwnI w5 wa.heap.size b5 c5 (ents k) from by have h := hown5.out; rw [List.nil_append, Nat.zero_add] at h; exact h); obtain ⟨⟨k0e, k1e, k2e, k3e⟩, _, _⟩ := BX.out w5 HB5.out; obtain ⟨⟨n0e, n1e⟩, n2e, n3e⟩ := NE.out w5 HB5.out 0; rw [Nat.add_zero] at n0e n1e n2e n3e; obtain ⟨⟨n4e, n5e⟩, n6e, n7e⟩ := NE.out w5 HB5.out 1; have hse : wa.heap.size ≤ w5.heap.size := HB5.out.size)
          | (refine step_appI rfl (.tmp 43) (.tmp 45) rfl wa.heap.size b5 c5 M (ents k) rfl ?_ _ 0 1 1 [((y : Int), (-1 : Int))] rfl ?_ ?_ ?_ ?_; exact Lib.hid (And.intro HO5.out.1 (by (repeat first | (with_reducible refine OwnI.alloc ?_ _) | (with_reducible refine OwnI.dr ?_)); exact HO5.out.2)); exact Lib.hid (by (repeat (first | ((with_reducible refine oneI _ _ ?_ ((y : Int), (-1 : Int))); (first | rfl | simp)) | (with_reducible refine ItemsR.alloc ?_ _) | (with_reducible refine ItemsR.dr ?_) | refine ItemsR.grownBy ?_ hgrow5.out (by omega)))); omega; exact below_le (by (repeat first | (with_reducible refine below_al ?_ _) | (with_reducible refine below_dw ?_)); exact HB5.out); intro b6 c6 w6 hown6 hgrow6; have HB6 := Lib.hid (show Below wa.heap.size wa w6 from below_grown (by (repeat first | (with_reducible refine below_al ?_ _) | (with_reducible refine below_dw ?_)); exact HB5.out) hgrow6.out HO5.out.2.lt.1); have HI6 := Lib.hid (show ItemsR w6 b6 0 (M + 1) (ents k ++ [((y : Int), (-1 : Int))]) from by have h := hown6.out; have hi := h.2.items; rw [← h.1] at hi; exact hi); obtain ⟨⟨k0f, k1f, k2f, k3f⟩, _, _⟩ := BX.out w6 HB6.out; obtain ⟨⟨n0f, n1f⟩, n2f, n3f⟩ := NE.out w6 HB6.out 0; rw [Nat.add_zero] at n0f n1f n2f n3f; obtain ⟨⟨n4f, n5f⟩, n6f, n7f⟩ := NE.out w6 HB6.out 1; have hsf : wa.heap.size ≤ w6.heap.size := HB6.out.size)
          | (rw [Nat.zero_add]; refine step_appI rfl (.tmp 43) (.tmp 45) rfl wa.heap.size b5 c5 M (ents k) rfl ?_ _ 0 1 1 [((y : Int), (-1 : Int))] rfl ?_ ?_ ?_ ?_; exact Lib.hid (And.intro HO5.out.1 (by (repeat first | (with_reducible refine OwnI.alloc ?_ _) | (with_reducible refine OwnI.dr ?_)); exact HO5.out.2)); exact Lib.hid (by (repeat (first | ((with_reducible refine oneI _ _ ?_ ((y : Int), (-1 : Int))); (first | rfl | simp)) | (with_reducible refine ItemsR.alloc ?_ _) | (with_reducible refine ItemsR.dr ?_) | refine ItemsR.grownBy ?_ hgrow5.out (by omega)))); omega; exact below_le (by (repeat first | (with_reducible refine below_al ?_ _) | (with_reducible refine below_dw ?_)); exact HB5.out); intro b6 c6 w6 hown6 hgrow6; have HB6 := Lib.hid (show Below wa.heap.size wa w6 from below_grown (by (repeat first | (with_reducible refine below_al ?_ _) | (with_reducible refine below_dw ?_)); exact HB5.out) hgrow6.out HO5.out.2.lt.1); have HI6 := Lib.hid (show ItemsR w6 b6 0 (M + 1) (ents k ++ [((y : Int), (-1 : Int))]) from by have h := hown6.out; have hi := h.2.items; rw [← h.1] at hi; exact hi); obtain ⟨⟨k0f, k1f, k2f, k3f⟩, _, _⟩ := BX.out w6 HB6.out; obtain ⟨⟨n0f, n1f⟩, n2f, n3f⟩ := NE.out w6 HB6.out 0; rw [Nat.add_zero] at n0f n1f n2f n3f; obtain ⟨⟨n4f, n5f⟩, n6f, n7f⟩ := NE.out w6 HB6.out 1; have hsf : wa.heap.size ≤ w6.heap.size := HB6.out.size)
          | fail)
      all_goals
        go_wp2_with fail
        go_meet
        first
          | exact ⟨_, rfl, Box3.made HRD.out, below_al HB7.out _⟩
          | exact ⟨_, rfl, Box3.stored HRD.out HZ.out, below_stored HB7.out (by first | exact Nat.le_refl _ | omega)⟩
  case rest =>
    obtain ⟨eb, rfl, HCUT⟩ := hcut
    have HEX := Lib.hid HCUT.out.1
    have HA2 := Lib.hid (HA.out.below HCUT.out.2)
    have HL2 := Lib.hid (HLA.out.below HCUT.out.2)
    have HT2 := Lib.hid (HTA.out.below HCUT.out.2)
    have HK2 := Lib.hid (HKA.out.below HCUT.out.2)
    have HB2 := Lib.hid (HBA.out.trans (HCUT.out.2.mono HBA.out.size))
    have HM2 := Lib.hid (show wc.cell? ⟨mb, 0, none⟩ = some (.int .i64 (y : Int)) ∧ wc.cell? ⟨mb, 1, none⟩ = some (.int .i64 (-1)) ∧ mb < wc.heap.size from ⟨(HCUT.out.2.cell (p := ⟨mb, 0, none⟩) HMA.out.2.2).trans HMA.out.1, (HCUT.out.2.cell (p := ⟨mb, 1, none⟩) HMA.out.2.2).trans HMA.out.2.1, Nat.lt_of_lt_of_le HMA.out.2.2 HCUT.out.2.size⟩)
    clear HCUT HA HLA HTA HKA HBA HMA t0 t1 m0 m1
    generalize wc = wa at *
    obtain ⟨_, t0, t1, _, _⟩ := HT2.out
    obtain ⟨m0, m1, _⟩ := HM2.out
    go_wp2_with fail
    go_cut [13] (fun v wx => ∃ bx, v = .pointer (some ⟨bx, 0, none⟩) ∧ Hid (Box3 wx bx (1 + M) (sorted (ltT (rs.length : Int) (rankT rs)) (((y : Int), (-1 : Int)) :: ents k)) ∧ Below wa.heap.size wa wx))
    case first =>
      as_aux_lemma =>
        have BX := Lib.hid (fun (W : World) (hb : Below wa.heap.size wa W) => show (W.cell? ⟨tb, 0, none⟩ = some (.int .i64 (rs.length : Int)) ∧ W.cell? ⟨tb, 1, none⟩ = some (.slice (some ⟨b1, 0, none⟩) L c1) ∧ W.cell? ⟨mb, 0, none⟩ = some (.int .i64 (y : Int)) ∧ W.cell? ⟨mb, 1, none⟩ = some (.int .i64 (-1))) ∧ ItemsR W b3 0 M (ents k) ∧ IntsR W (some ⟨b1, 0, none⟩) L (rankT rs) from
          have ht := HT2.out.below hb
          ⟨⟨ht.2.1, ht.2.2.1, (hb.cell (p := ⟨mb, 0, none⟩) HM2.out.2.2).trans HM2.out.1, (hb.cell (p := ⟨mb, 1, none⟩) HM2.out.2.2).trans HM2.out.2.1⟩, HL2.out.below hb, ht.2.2.2.1⟩)
        have HLL := Lib.hid HT2.out.2.2.2.2
        have NE := Lib.hid (fun (W : World) (hb : Below wa.heap.size wa W) (q : Nat) => show (tb ≠ W.heap.size + q ∧ W.heap.size + q ≠ tb) ∧ (mb ≠ W.heap.size + q ∧ W.heap.size + q ≠ mb) from by
          have h1 := HT2.out.1
          have h2 := HM2.out.2.2
          have h3 := hb.size
          omega)
        obtain ⟨⟨na0, na1⟩, na2, na3⟩ := NE.out wa (Below.refl _ _) 0
        obtain ⟨⟨na4, na5⟩, na6, na7⟩ := NE.out wa (Below.refl _ _) 1
        obtain ⟨⟨na8, na9⟩, naa, nab⟩ := NE.out wa (Below.refl _ _) 2
        rw [Nat.add_zero] at na0 na1 na2 na3
        have nac : tb ≠ wa.heap.size + 1 + 1 := na8
        have nad : wa.heap.size + 1 + 1 ≠ tb := na9
        have nae : mb ≠ wa.heap.size + 1 + 1 := naa
        have naf : wa.heap.size + 1 + 1 ≠ mb := nab
        go_region_held3 (fun w' => w'.cell? ⟨tb, 0, none⟩ = some (.int .i64 (rs.length : Int)) ∧ w'.cell? ⟨tb, 1, none⟩ = some (.slice (some ⟨b1, 0, none⟩) L c1) ∧ w'.cell? ⟨mb, 0, none⟩ = some (.int .i64 (y : Int)) ∧ w'.cell? ⟨mb, 1, none⟩ = some (.int .i64 (-1))) (first | (refine (BX.out _ ?_).1; (repeat first | (with_reducible refine below_al ?_ _) | (with_reducible refine below_dw ?_)); with_reducible exact Below.refl _ _) | go_keep)
          (first
            | (go_at_call 11; refine (roads_any _ _ L c1 (rankT rs) b6 0 (1 + M) c6 (((y : Int), (-1 : Int)) :: ents k) _ (BX.out _ (by (repeat first | (with_reducible refine below_al ?_ _) | (with_reducible refine below_dw ?_)); exact HB6.out)).2.2 HLL.out (by (repeat first | (with_reducible refine ItemsR.alloc ?_ _) | (with_reducible refine ItemsR.dr ?_)); exact HI6.out) (by omega)).mono ?_; rintro e w7 ⟨p0, d0, p1, d1, p2, d2, rfl, hrd, hb7⟩; have HB7 := Lib.hid (show Below wa.heap.size wa w7 from below_then (by (repeat first | (with_reducible refine below_al ?_ _) | (with_reducible refine below_dw ?_)); exact HB6.out) hb7); have HRD := Lib.hid hrd; obtain ⟨⟨k0g, k1g, k2g, k3g⟩, _, _⟩ := BX.out w7 HB7.out; obtain ⟨⟨n0g, n1g⟩, n2g, n3g⟩ := NE.out w7 HB7.out 0; rw [Nat.add_zero] at n0g n1g n2g n3g; obtain ⟨⟨n4g, n5g⟩, n6g, n7g⟩ := NE.out w7 HB7.out 1; have hsg : wa.heap.size ≤ w7.heap.size := HB7.out.size; (first | (refine with_fact (P := Z3 w7 (wa.heap.size)) ?_ ?_; refine Z3h.z3 ?_; (repeat (first | ((with_reducible refine Z3h.at ?_); (first | rfl | simp)) | (with_reducible refine Z3h.alloc ?_ _) | (with_reducible refine Z3h.dr ?_) | (with_reducible refine Z3h.below ?_ hb7) | (with_reducible refine Z3h.grownO wa.heap.size 1 [((y : Int), (-1 : Int))] ?_ hgrow6.out ?_) | ((with_reducible refine ownX _ _ _ ?_ ?_ ((y : Int), (-1 : Int))); (first | rfl | simp); (first | exact Nat.le_refl _ | omega)) | (with_reducible refine OwnI.alloc ?_ _) | (with_reducible refine OwnI.dr ?_))); intro HZ; obtain ⟨z0, z1, z2, g0, g1, g2, _⟩ := HZ.out) | (refine with_fact (P := Z3 w7 (wa.heap.size + 1)) ?_ ?_; refine Z3h.z3 ?_; (repeat (first | ((with_reducible refine Z3h.at ?_); (first | rfl | simp)) | (with_reducible refine Z3h.alloc ?_ _) | (with_reducible refine Z3h.dr ?_) | (with_reducible refine Z3h.below ?_ hb7) | (with_reducible refine Z3h.grownO wa.heap.size 1 [((y : Int), (-1 : Int))] ?_ hgrow6.out ?_) | ((with_reducible refine ownX _ _ _ ?_ ?_ ((y : Int), (-1 : Int))); (first | rfl | simp); (first | exact Nat.le_refl _ | omega)) | (with_reducible refine OwnI.alloc ?_ _) | (with_reducible refine OwnI.dr ?_))); intro HZ; obtain ⟨z0, z1, z2, g0, g1, g2, _⟩ := HZ.out) | (refine with_fact (P := Z3 w7 (w6.heap.size)) ?_ ?_; refine Z3h.z3 ?_; (repeat (first | ((with_reducible refine Z3h.at ?_); (first | rfl | simp)) | (with_reducible refine Z3h.alloc ?_ _) | (with_reducible refine Z3h.dr ?_) | (with_reducible refine Z3h.below ?_ hb7) | (with_reducible refine Z3h.grownO wa.heap.size 1 [((y : Int), (-1 : Int))] ?_ hgrow6.out ?_) | ((with_reducible refine ownX _ _ _ ?_ ?_ ((y : Int), (-1 : Int))); (first | rfl | simp); (first | exact Nat.le_refl _ | omega)) | (with_reducible refine OwnI.alloc ?_ _) | (with_reducible refine OwnI.dr ?_))); intro HZ; obtain ⟨z0, z1, z2, g0, g1, g2, _⟩ := HZ.out) | skip); clear hrd)
            | (refine step_appI rfl (.tmp 50) (.tmp 51) rfl wa.heap.size _ 1 1 [((y : Int), (-1 : Int))] rfl ?_ b3 0 M c3 (ents k) rfl ?_ ?_ ?_ ?_; exact Lib.hid (And.intro rfl (by (repeat (first | ((with_reducible refine ownX _ _ _ ?_ ?_ ((y : Int), (-1 : Int))); (first | rfl | simp); (first | exact Nat.le_refl _ | omega)) | (with_reducible refine OwnI.alloc ?_ _) | (with_reducible refine OwnI.dr ?_))))); exact Lib.hid (BX.out _ (by (repeat first | (with_reducible refine below_al ?_ _) | (with_reducible refine below_dw ?_)); exact Below.refl _ _)).2.1; omega; exact below_le (by (repeat first | (with_reducible refine below_al ?_ _) | (with_reducible refine below_dw ?_)); exact Below.refl _ _); intro b6 c6 w6 hown6 hgrow6; have HB6 := Lib.hid (show Below wa.heap.size wa w6 from below_grown (by (repeat first | (with_reducible refine below_al ?_ _) | (with_reducible refine below_dw ?_)); exact Below.refl _ _) hgrow6.out (by first | exact Nat.le_refl _ | omega)); have HI6 := Lib.hid (show ItemsR w6 b6 0 (1 + M) (((y : Int), (-1 : Int)) :: ents k) from by have h := hown6.out; have hi := h.2.items; rw [← h.1] at hi; exact hi); obtain ⟨⟨k0f, k1f, k2f, k3f⟩, _, _⟩ := BX.out w6 HB6.out; obtain ⟨⟨n0f, n1f⟩, n2f, n3f⟩ := NE.out w6 HB6.out 0; rw [Nat.add_zero] at n0f n1f n2f n3f; obtain ⟨⟨n4f, n5f⟩, n6f, n7f⟩ := NE.out w6 HB6.out 1; have hsf : wa.heap.size ≤ w6.heap.size := HB6.out.size)
            | fail)
        all_goals
          go_wp2_with fail
          go_meet
          first
            | exact ⟨_, rfl, Box3.made HRD.out, below_al HB7.out _⟩
            | exact ⟨_, rfl, Box3.stored HRD.out HZ.out, below_stored HB7.out (by first | exact Nat.le_refl _ | omega)⟩
    case rest =>
      obtain ⟨gb, rfl, HCUT⟩ := hcut
      have HGX := Lib.hid (show Box3 wc gb (M + 1) _ from by have h := HCUT.out.1; rw [Nat.add_comm 1 M] at h; exact h)
      have HEX3 := Lib.hid (HEX.out.below HCUT.out.2)
      have HA3 := Lib.hid (HA2.out.below HCUT.out.2)
      have HT3 := Lib.hid (HT2.out.below HCUT.out.2)
      have HK3 := Lib.hid (HK2.out.below HCUT.out.2)
      have HB3 := Lib.hid (HB2.out.trans (HCUT.out.2.mono HB2.out.size))
      have HM3 := Lib.hid (show wc.cell? ⟨mb, 0, none⟩ = some (.int .i64 (y : Int)) ∧ wc.cell? ⟨mb, 1, none⟩ = some (.int .i64 (-1)) ∧ mb < wc.heap.size from ⟨(HCUT.out.2.cell (p := ⟨mb, 0, none⟩) HM2.out.2.2).trans HM2.out.1, (HCUT.out.2.cell (p := ⟨mb, 1, none⟩) HM2.out.2.2).trans HM2.out.2.1, Nat.lt_of_lt_of_le HM2.out.2.2 HCUT.out.2.size⟩)
      clear HCUT HEX HA2 HL2 HT2 HK2 HB2 HM2 t0 t1 m0 m1
      obtain ⟨_, t0, t1, _, _⟩ := HT3.out
      go_wp2_with fail
      go_loopg [14, 15, 56] M (fun g v1 v2 vi wr => ∃ (j : Nat), v1 = .int .i64 ((k.take j).countP fun x => decide (sg (rs.length : Int) (rankT rs) x y ≤ 0) : Nat) ∧ v2 = .int .i64 ((k.take j).countP fun x => decide (sg (rs.length : Int) (rankT rs) x y < 0) : Nat) ∧ vi = .int .i64 j ∧ j ≤ M ∧ M - j ≤ g ∧ wr = wc)
      case atStart => exact ⟨0, by simp, by simp, rfl, by omega, by omega, rfl⟩
      case round =>
        obtain ⟨j, rfl, rfl, rfl, hjM, hg, rfl⟩ := hrel
        by_cases hlt : j < M
        · have hltz : (j : Int) < (M : Int) := by omega
          obtain ⟨bk, o, he, hbk, hck⟩ := HK3.out.2 (by omega)
          injection he with he
          injection he with e1 e2
          subst e1 e2
          have cj : wr.cell? ⟨b2, j, none⟩ = some (.int .i64 (k.getD j 0)) := by have := hck j hlt; rwa [Nat.zero_add] at this
          have cps := fun p => countP_take_succ p k j 0 (by rw [← HM.out]; exact hlt)
          have HC1 := Lib.hid (cps fun x => decide (sg (rs.length : Int) (rankT rs) x y ≤ 0))
          have HC2 := Lib.hid (cps fun x => decide (sg (rs.length : Int) (rankT rs) x y < 0))
          have HSG := Lib.hid (Sign_any (rs.length : Int) (some ⟨b1, 0, none⟩) L c1 (rankT rs) (k.getD j 0) (y : Int) wr HT3.out.2.2.2.1 HT3.out.2.2.2.2)
          have hb1 : (k.take j).countP (fun x => decide (sg (rs.length : Int) (rankT rs) x y ≤ 0)) ≤ j := Nat.le_trans List.countP_le_length (by rw [List.length_take]; omega)
          have hb2 : (k.take j).countP (fun x => decide (sg (rs.length : Int) (rankT rs) x y < 0)) ≤ j := Nat.le_trans List.countP_le_length (by rw [List.length_take]; omega)
          have hsg : sg (rs.length : Int) (rankT rs) (k.getD j 0) y = sgn (num (rs.length : Int) (rankT rs) (k.getD j 0) (y : Int)) := rfl
          simp only [hsg] at HC1 HC2
          generalize (k.take j).countP (fun x => decide (sg (rs.length : Int) (rankT rs) x y ≤ 0)) = n1 at HC1 hb1 ⊢
          generalize (k.take j).countP (fun x => decide (sg (rs.length : Int) (rankT rs) x y < 0)) = n2 at HC2 hb2 ⊢
          generalize sgn (num (rs.length : Int) (rankT rs) (k.getD j 0) (y : Int)) = z at HC1 HC2 HSG
          generalize k.getD j 0 = x at cj HSG
          clear hck hbk cps hsg
          rcases Int.lt_trichotomy z 0 with hz | hz | hz
          · have hz1 : z ≤ 0 := by omega
            go_wp2_with fail
            refine (HSG.out).mono ?_
            rintro e w' ⟨rfl, rfl⟩
            go_wp2_with fail
            refine (HSG.out).mono ?_
            rintro e w' ⟨rfl, rfl⟩
            go_wp2_with fail
            go_roundg (M - (j + 1))
            case measure => omega
            case rel => exact ⟨j + 1, by rw [HC1.out, if_pos (decide_eq_true hz1)]; go_num, by rw [HC2.out, if_pos (decide_eq_true hz)]; go_num, by go_num, by omega, Nat.le_refl _, rfl⟩
          · have hz1 : z ≤ 0 := by omega
            have hz2 : ¬ z < 0 := by omega
            go_wp2_with fail
            refine (HSG.out).mono ?_
            rintro e w' ⟨rfl, rfl⟩
            go_wp2_with fail
            refine (HSG.out).mono ?_
            rintro e w' ⟨rfl, rfl⟩
            go_wp2_with fail
            go_roundg (M - (j + 1))
            case measure => omega
            case rel => exact ⟨j + 1, by rw [HC1.out, if_pos (decide_eq_true hz1)]; go_num, by rw [HC2.out, if_neg (by simp [hz2])]; go_num, by go_num, by omega, Nat.le_refl _, rfl⟩
          · have hz1 : ¬ z ≤ 0 := by omega
            have hz2 : ¬ z < 0 := by omega
            go_wp2_with fail
            refine (HSG.out).mono ?_
            rintro e w' ⟨rfl, rfl⟩
            go_wp2_with fail
            refine (HSG.out).mono ?_
            rintro e w' ⟨rfl, rfl⟩
            go_wp2_with fail
            go_roundg (M - (j + 1))
            case measure => omega
            case rel => exact ⟨j + 1, by rw [HC1.out, if_neg (by simp [hz1])]; go_num, by rw [HC2.out, if_neg (by simp [hz2])]; go_num, by go_num, by omega, Nat.le_refl _, rfl⟩
        · have hltz : ¬ (j : Int) < (M : Int) := by omega
          obtain rfl : j = M := by omega
          have hkt : k.take j = k := List.take_of_length_le (by rw [HM.out]; exact Nat.le_refl _)
          rw [hkt]
          have hb1 : k.countP (fun x => decide (sg (rs.length : Int) (rankT rs) x y ≤ 0)) ≤ j := by rw [HM.out]; exact List.countP_le_length
          have hb2 : k.countP (fun x => decide (sg (rs.length : Int) (rankT rs) x y < 0)) ≤ j := by rw [HM.out]; exact List.countP_le_length
          have hP1 := HPL.out.1
          have hP2 := HPL.out.2
          rw [hP1] at HEX3
          rw [hP2] at HGX
          clear hP1 hP2 HPL hkt hg t0 t1
          generalize k.countP (fun x => decide (sg (rs.length : Int) (rankT rs) x y ≤ 0)) = n1 at HEX3 hb1 ⊢
          generalize k.countP (fun x => decide (sg (rs.length : Int) (rankT rs) x y < 0)) = n2 at HGX hb2 ⊢
          generalize sorted (ltT (rs.length : Int) (rankT rs)) (ents k) = SA at HEX3 HGX HA3
          go_wp2_with fail
          obtain ⟨wp, hwp⟩ : ∃ wp, wp = wr := ⟨_, rfl⟩
          subst hwp
          go_loopg [81] 3 (fun g vi wr => ∃ (i : Nat), vi = .int .i64 i ∧ i ≤ 3 ∧ 3 - i ≤ g ∧ Hid (Below wp.heap.size wp wr))
          case atStart => exact ⟨0, rfl, by omega, by omega, Below.refl _ _⟩
          case round =>
            obtain ⟨i, rfl, hi3, hg, HR⟩ := hrel
            by_cases hlt : i < 3
            · have hlt3 : (i : Int) < 3 := by omega
              have HA1 := Lib.hid (HA3.out.below HR.out)
              have HE1 := Lib.hid (HEX3.out.below HR.out)
              have HG1 := Lib.hid (HGX.out.below HR.out)
              obtain ⟨ba, ca, ya, hia, hca, hsa⟩ := HA1.out.at hlt
              obtain ⟨be, ce, ye, hie, hse⟩ := HE1.out.at' hlt
              obtain ⟨bg, cg, yg, hig, hsg⟩ := HG1.out.at' hlt
              have hM2 := Nat.lt_of_lt_of_le HM3.out.2.2 HR.out.size
              have y0 : wr.cell? ⟨mb, 0, none⟩ = some (.int .i64 (y : Int)) := (HR.out.cell (p := ⟨mb, 0, none⟩) HM3.out.2.2).trans HM3.out.1
              have y1 : wr.cell? ⟨mb, 1, none⟩ = some (.int .i64 (-1)) := (HR.out.cell (p := ⟨mb, 1, none⟩) HM3.out.2.2).trans HM3.out.2.1
              have TR := Lib.hid (fun (W' : World) (hb : Below wr.heap.size wr W') => And.intro ((hb.cell (p := ⟨ab, i, none⟩) hsa).trans ya) (And.intro ((hb.cell (p := ⟨eb, i, none⟩) hse).trans ye) (And.intro ((hb.cell (p := ⟨gb, i, none⟩) hsg).trans yg) (And.intro ((hb.cell (p := ⟨mb, 0, none⟩) hM2).trans y0) ((hb.cell (p := ⟨mb, 1, none⟩) hM2).trans y1)))))
              have HIA := Lib.hid hia
              have HIE := Lib.hid hie
              have HIG := Lib.hid hig
              clear hia hie hig hsa hse hsg hM2 HA1 HE1 HG1
              have HP1 := Lib.hid (put_at ba j n1 ca be ce SA ((y : Int), (-1 : Int)) wr.drew HIA.out hca hb1 HIE.out (by omega))
              have HP2 := Lib.hid (fun (W : World) (hb : Below wr.heap.size wr W) => put_at ba j n2 ca bg cg SA ((y : Int), (-1 : Int)) W (HIA.out.below hb) hca hb2 (HIG.out.below hb) (by omega))
              go_upto_region 22 with fail
              go_region_held3 (fun w' => w'.cell? ⟨ab, i, none⟩ = some (.slice (some ⟨ba, 0, none⟩) j ca) ∧ w'.cell? ⟨eb, i, none⟩ = some (.slice (some ⟨be, 0, none⟩) (j + 1) ce) ∧ w'.cell? ⟨gb, i, none⟩ = some (.slice (some ⟨bg, 0, none⟩) (j + 1) cg) ∧ w'.cell? ⟨mb, 0, none⟩ = some (.int .i64 (y : Int)) ∧ w'.cell? ⟨mb, 1, none⟩ = some (.int .i64 (-1))) (go_keep)
                (first
                  | (go_at_call 16; refine (HP2.out we HBE.out).mono ?_; rintro e wf ⟨rfl, hbf⟩; have HBF := Lib.hid (HBE.out.trans (hbf.mono HBE.out.size)); obtain ⟨k5, k6, k7, k8, k9⟩ := TR.out wf HBF.out; clear hbf)
                  | (go_at_call 16; refine HP1.out.mono ?_; rintro e we ⟨rfl, hbe⟩; have HBE := Lib.hid (below_drew hbe); obtain ⟨k0, k1, k2, k3, k4⟩ := TR.out we HBE.out; clear hbe))
              go_wp2_with fail
              go_roundg (3 - (i + 1))
              case measure => omega
              case rel => exact ⟨i + 1, by go_num, by omega, Nat.le_refl _, (show Hid _ from HR.out.trans (HBF.out.mono HR.out.size))⟩
            · have hlt3 : ¬ (i : Int) < 3 := by omega
              go_wp2_with fail
              go_ret
              exact ⟨rfl, HB3.out.trans (HR.out.mono HB3.out.size)⟩

theorem FnOneMore_said {A B : Option Addr} {n c m d : Nat} {zs ks : List Int} (w : World) (hz : IntsR w A n zs) (hnc : n ≤ c) (hc : c ≤ maxLen) (hk : IntsR w B m ks) (hmd : m ≤ d) (hd : d ≤ maxLen) (key : Int) (_w : (Lit.int .i64 key).wf = true) :
    Calls Try.prog 4 #[.slice A n c, .slice B m d, .int .i64 key] w fun e w' => e = .returned (.bool true) ∧ Below w.heap.size w w' :=
  FnOneMore_walk A B n c m d zs ks key w hz hk (Nat.le_trans hnc hc) hnc (Nat.le_trans hmd hd) hmd
end Go.Proofs.Ytdpomoengbpcaaa
