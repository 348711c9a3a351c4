/- Walks: laws.FnCallsBounded returns true. -/
import Derived.Test.YtlekkpjghamhcaaPlainA
import Derived.Test.YtlekkpjghamhcaaTold
import Derived.Deep.RegionHeld3
namespace Go.Proofs.Ytlekkpjghamhcaa
open Go.RowKit Go.Sort Go.Lib

/-- The bounds in numbers. -/
theorem calls_num (M b p q : Nat) (hM : M ≤ 3000) (hb1 : 1 ≤ b) (hb : b ≤ 12) (hp : p ≤ 20 * M + b * (M * (b + 1))) (hq : q ≤ 20 * M + b * (M * (b + 1))) :
    IntKind.i64.wrap (2 * (M : Int) * b) = 2 * (M : Int) * b ∧ IntKind.i64.wrap (2 * (M : Int) * b * b) = 2 * (M : Int) * b * b ∧ IntKind.i64.wrap (20 * (M : Int) + 2 * (M : Int) * b * b) = 20 * (M : Int) + 2 * (M : Int) * b * b
    ∧ IntKind.i64.wrap (4 * (M : Int) * b) = 4 * (M : Int) * b ∧ IntKind.i64.wrap (4 * (M : Int) * b * b) = 4 * (M : Int) * b * b ∧ IntKind.i64.wrap (20 * (M : Int) + 4 * (M : Int) * b * b) = 20 * (M : Int) + 4 * (M : Int) * b * b
    ∧ (p : Int) ≤ 20 * (M : Int) + 2 * (M : Int) * b * b ∧ (q : Int) ≤ 20 * (M : Int) + 4 * (M : Int) * b * b := by
  have h1 : M * b ≤ 3000 * 12 := Nat.mul_le_mul hM hb
  have h2 : M * b * b ≤ 3000 * 12 * 12 := Nat.mul_le_mul h1 hb
  have h3 : b * (M * (b + 1)) = M * b * b + M * b := by rw [Nat.mul_comm b, Nat.mul_assoc, Nat.add_mul, Nat.one_mul, Nat.mul_add, Nat.mul_assoc]
  have h4 : M * b ≤ M * b * b := Nat.le_mul_of_pos_right _ (by omega)
  have e1 : ∀ t : Nat, (t : Int) * (M : Int) * b = ((t * (M * b) : Nat) : Int) := fun t => by push_cast; rw [Int.mul_assoc]
  have e2 : ∀ t : Nat, (t : Int) * (M : Int) * b * b = ((t * (M * b * b) : Nat) : Int) := fun t => by push_cast; simp only [Int.mul_assoc]
  have a1 := e1 2
  have a2 := e2 2
  have a3 := e1 4
  have a4 := e2 4
  simp only [Int.cast_ofNat_Int] at a1 a2 a3 a4
  rw [a2, a1, a4, a3]
  simp only [IntKind.wrap_i64]
  rw [h3] at hp hq
  refine ⟨?_, ?_, ?_, ?_, ?_, ?_, ?_, ?_⟩ <;> omega
/-- How many of the first q calls are of a kind. -/
def cnt (kind : Int) (cs : List Cl) (q : Nat) : Nat := (cs.take q).countP fun c => c.1 == kind
theorem cnt_step (kind : Int) (cs : List Cl) (q : Nat) (hq : q < cs.length) : cnt kind cs (q + 1) = cnt kind cs q + (if ((cs.getD q (0, 0, 0, false)).1 == kind) = true then 1 else 0) := by
  unfold cnt
  rw [List.take_add_one, List.getElem?_eq_getElem hq, List.countP_append, List.getD_eq_getElem?_getD, List.getElem?_eq_getElem hq]
  simp [List.countP_cons]
theorem cnt_log (lt : It → It → Bool) (es : List (Ev It)) : (es.map (evC lt)).countP (fun c => c.1 == 1) = es.countP Ev.isL ∧ (es.map (evC lt)).countP (fun c => c.1 == 2) = es.countP (fun e => !e.isL) := by
  induction es with
  | nil => exact ⟨rfl, rfl⟩
  | cons e r ih => cases e <;> simp [evC, Ev.isL, List.countP_cons, ih.1, ih.2]
theorem calls_cost (lt : It → It → Bool) (xs : List It) (b : Nat) (hb : xs.length < 2 ^ b) :
    cnt 1 (callsOf lt xs) (callsOf lt xs).length ≤ 20 * xs.length + b * (xs.length * (b + 1)) ∧ cnt 2 (callsOf lt xs) (callsOf lt xs).length ≤ 20 * xs.length + b * (xs.length * (b + 1)) := by
  have h := stable_cost lt xs.length b ⟨xs.toArray, []⟩ hb
  have e1 : nL (⟨xs.toArray, []⟩ : St It) = 0 := rfl
  have e2 : nS (⟨xs.toArray, []⟩ : St It) = 0 := rfl
  rw [e1, e2] at h
  unfold cnt
  rw [List.take_length]
  unfold callsOf
  have hc := cnt_log lt (stable lt xs.length ⟨xs.toArray, []⟩).log
  simp only [List.countP_cons]
  rw [hc.1, hc.2]
  unfold nL nS at h
  simpa using h
theorem bits_step (M b x : Nat) (hb : 1 ≤ b) (h1 : M < (x + 1) * 2 ^ (b - 1)) (h2 : x * 2 ^ (b - 1) ≤ 3000) (hx : 1 < x) :
    b + 1 ≤ 12 ∧ M < (x / 2 + 1) * 2 ^ (b + 1 - 1) ∧ (b + 1 = 1 ∨ 1 ≤ x / 2) ∧ x / 2 * 2 ^ (b + 1 - 1) ≤ 3000 := by
  obtain ⟨b', rfl⟩ : ∃ b', b = b' + 1 := ⟨b - 1, by omega⟩
  simp only [Nat.add_sub_cancel] at *
  have e1 : (x / 2 + 1) * 2 ^ (b' + 1) = (2 * (x / 2) + 2) * 2 ^ b' := by rw [Nat.pow_succ, show 2 * (x / 2) + 2 = (x / 2 + 1) * 2 from by omega, Nat.mul_assoc, Nat.mul_comm (2 ^ b') 2]
  have e2 : x / 2 * 2 ^ (b' + 1) = (2 * (x / 2)) * 2 ^ b' := by rw [Nat.pow_succ, Nat.mul_comm 2 (x / 2), Nat.mul_assoc, Nat.mul_comm (2 ^ b') 2]
  have e3 : (x + 1) * 2 ^ b' ≤ (2 * (x / 2) + 2) * 2 ^ b' := Nat.mul_le_mul_right _ (by omega)
  have e4 : (2 * (x / 2)) * 2 ^ b' ≤ x * 2 ^ b' := Nat.mul_le_mul_right _ (by omega)
  have e5 : 2 * 2 ^ b' ≤ x * 2 ^ b' := Nat.mul_le_mul_right _ (by omega)
  refine ⟨?_, by omega, .inr (by omega), by omega⟩
  by_cases hc : b' ≤ 10
  · omega
  · have : 2 ^ 11 ≤ 2 ^ b' := Nat.pow_le_pow_right (by omega) (by omega)
    omega

set_option maxHeartbeats 2000000 in
set_option maxRecDepth 100000 in
theorem FnCallsBounded_walk (A B : Option Addr) (n c m d : Nat) (zs ks : List Int) (w : World) (hz : IntsR w A n zs) (hk : IntsR w B m ks) (hn : n ≤ maxLen) (hnc : n ≤ c) (hm : m ≤ maxLen) (hmd : m ≤ d) :
    Calls Try.prog 6 #[.slice A n c, .slice B m d] w fun e w' => e = .returned (.bool true) ∧ Below w.heap.size w w' := by
  have HC := Lib.hid (ranked_any A B n c m d zs ks w hz hk hn hnc hm hmd)
  clear hz hk hn hnc hm hmd
  have hz3 : (zs.take 300).length ≤ 300 := by rw [List.length_take]; omega
  generalize zs.take 300 = rs at HC hz3
  have hkin := rankKeys_in rs.length ks
  have hkle := rankKeys_le rs.length ks
  have hrl := rankT_length rs
  generalize rankKeys rs.length ks = k at HC hkin hkle
  have hLm : (rankT rs).length ≤ maxLen := by
    rw [hrl]; have := Nat.mul_le_mul hz3 hz3; unfold maxLen; omega
  have HF := Lib.hid hLm
  clear hkin hrl hLm
  go_enter Try.func6, Try.ntmps6
  go_wp2_with fail
  refine HC.out.mono ?_
  rintro e w1 ⟨b1, c1, L, b2, c2, M, rfl, hL, hM, hownT, hownK, hb1⟩
  have HO := Lib.hid (And.intro hL (And.intro hM (And.intro hownT (And.intro hownK hb1))))
  clear hL hM hownT hownK hb1 HC
  go_wp2_with fail
  have x0 : (w1.alloc (.cells #[.int .i64 (rs.length : Int), .slice (some ⟨b1, 0, none⟩) L c1] 24)).cell? ⟨w1.heap.size, 0, none⟩ = some (.int .i64 (rs.length : Int)) := by simp
  have x1 : (w1.alloc (.cells #[.int .i64 (rs.length : Int), .slice (some ⟨b1, 0, none⟩) L c1] 24)).cell? ⟨w1.heap.size, 1, none⟩ = some (.slice (some ⟨b1, 0, none⟩) L c1) := by simp
  have s1 : w1.heap.size < (w1.alloc (.cells #[.int .i64 (rs.length : Int), .slice (some ⟨b1, 0, none⟩) L c1] 24)).heap.size := by simp
  have hI : IntsR (w1.alloc (.cells #[.int .i64 (rs.length : Int), .slice (some ⟨b1, 0, none⟩) L c1] 24)) (some ⟨b1, 0, none⟩) L (rankT rs) := by rw [HO.out.1]; exact HO.out.2.2.1.ints.alloc _
  have hK : IntsR (w1.alloc (.cells #[.int .i64 (rs.length : Int), .slice (some ⟨b1, 0, none⟩) L c1] 24)) (some ⟨b2, 0, none⟩) M k := by rw [HO.out.2.1]; exact HO.out.2.2.2.1.ints.alloc _
  have hB : Below w.heap.size w (w1.alloc (.cells #[.int .i64 (rs.length : Int), .slice (some ⟨b1, 0, none⟩) L c1] 24)) := HO.out.2.2.2.2.alloc HO.out.2.2.2.2.size _
  have hML := HO.out.2.1
  have hLL := HO.out.1
  generalize w1.alloc (.cells #[.int .i64 (rs.length : Int), .slice (some ⟨b1, 0, none⟩) L c1] 24) = w2 at x0 x1 s1 hI hK hB ⊢
  generalize w1.heap.size = tb at x0 x1 s1 ⊢
  have HI := Lib.hid hI
  have HK := Lib.hid hK
  have HB := Lib.hid hB
  have HM := Lib.hid (And.intro hML hLL)
  have hM3 : M ≤ 3000 := by omega
  clear hI hK hB hML hLL HO
  have tr := fun (W : World) (hs : tb < W.heap.size) (W' : World) (hb : Below W.heap.size W W') (y0 : W.cell? ⟨tb, 0, none⟩ = some (.int .i64 (rs.length : Int))) (y1 : W.cell? ⟨tb, 1, none⟩ = some (.slice (some ⟨b1, 0, none⟩) L c1)) =>
    show tb < W'.heap.size ∧ W'.cell? ⟨tb, 0, none⟩ = some (.int .i64 (rs.length : Int)) ∧ W'.cell? ⟨tb, 1, none⟩ = some (.slice (some ⟨b1, 0, none⟩) L c1) from
    ⟨Nat.lt_of_lt_of_le hs hb.size, (hb.cell (p := ⟨tb, 0, none⟩) hs).trans y0, (hb.cell (p := ⟨tb, 1, none⟩) hs).trans y1⟩
  have TR := Lib.hid tr
  clear tr
  go_region_held3 (fun w' => w'.cell? ⟨tb, 0, none⟩ = some (.int .i64 (rs.length : Int)) ∧ w'.cell? ⟨tb, 1, none⟩ = some (.slice (some ⟨b1, 0, none⟩) L c1)) (go_keep)
    (first
      | (go_at_call 18; refine (entries_any _ M c2 k _ (by exact HK.out) (by omega)).mono ?_; rintro e w3 ⟨b3, c3, rfl, hown3, hb3⟩; have H3 := Lib.hid (And.intro hown3 (show Below w2.heap.size w2 w3 from ⟨hb3.os, hb3.tape, hb3.output, hb3.size, hb3.block⟩)); obtain ⟨s3, k0, k1⟩ := TR.out w2 s1 w3 H3.out.2 x0 x1; clear hown3 hb3)
      | (go_at_call 21; refine (Stable_any _ _ L c1 (rankT rs) b3 0 M c3 (ents k) _ (HI.out.below H3.out.2) (by rw [HM.out.2]; exact HF.out) ⟨by rw [ents_length]; exact HM.out.1.symm, H3.out.1.items.2.1, by rw [HM.out.1, ← ents_length]; exact H3.out.1.items.2.2⟩ (by omega)).mono ?_; rintro e w4 ⟨b4, c4, g4, L4, d4, rfl, hit4, hcs4, hL4, hb4⟩; have H4 := Lib.hid (And.intro hcs4 (show Below w2.heap.size w2 w4 from H3.out.2.trans (hb4.mono H3.out.2.size))); obtain ⟨s4, k2, k3⟩ := TR.out w2 s1 w4 H4.out.2 x0 x1; clear hcs4 hit4 hb4))
  have HCS := Lib.hid (show CallsR w4 g4 0 L4 (callsOf (ltT (rs.length : Int) (rankT rs)) (ents k)) from H4.out.1)
  have HBB := Lib.hid (HB.out.trans (H4.out.2.mono HB.out.size))
  have HAT := Lib.hid (fun q hq => call_at (ltT (rs.length : Int) (rankT rs)) (ents k) q hq)
  have HL := Lib.hid (show (callsOf (ltT (rs.length : Int) (rankT rs)) (ents k)).length = L4 from HCS.out.1)
  have hlk : (ents k).length = M := by rw [ents_length]; exact HM.out.1.symm
  have HCO := Lib.hid (fun b (hb : M < 2 ^ b) => calls_cost (ltT (rs.length : Int) (rankT rs)) (ents k) b (by rw [hlk]; exact hb))
  rw [hlk, HL.out] at HCO
  generalize callsOf (ltT (rs.length : Int) (rankT rs)) (ents k) = cs at HCS HAT HL HCO
  clear HI HK HB HM HF TR H3 H4 x0 x1 s1 s3 s4 k0 k1 k2 k3 hlk
  go_wp2_with fail
  go_loopg [10, 11] (M + 1) (fun g vb vx wr => ∃ (b x : Nat), vb = .int .i64 b ∧ vx = .int .i64 x ∧ x ≤ M ∧ 1 ≤ b ∧ b ≤ 12 ∧ x ≤ g ∧ w4 = wr ∧ Hid (M < (x + 1) * 2 ^ (b - 1) ∧ (b = 1 ∨ 1 ≤ x) ∧ (x * 2 ^ (b - 1) ≤ 3000)))
  case atStart => exact ⟨1, M, rfl, rfl, by omega, by omega, by omega, by omega, rfl, by simp, .inl rfl, by simpa using hM3⟩
  case round =>
    obtain ⟨b, x, rfl, rfl, hxM, hb1, hb12, hg, rfl, HX⟩ := hrel
    by_cases hx1 : 1 < x
    · have hx1z : (1 : Int) < (x : Int) := by omega
      have HN2 := Lib.hid (bits_step M b x hb1 HX.out.1 HX.out.2.2 hx1)
      have hbn := HN2.out.1
      go_wp2_with fail
      go_roundg (x / 2)
      case measure => omega
      case rel => exact ⟨b + 1, x / 2, by go_num, by first | go_num | (congr 1), by omega, by omega, by omega, Nat.le_refl _, rfl, HN2.out.2.1, HN2.out.2.2⟩
    · have hx1z : ¬ (1 : Int) < (x : Int) := by omega
      have hp : M < 2 ^ b := by
        have h1 := HX.out.1
        have : (x + 1) * 2 ^ (b - 1) ≤ 2 * 2 ^ (b - 1) := Nat.mul_le_mul_right _ (by omega)
        obtain ⟨b', rfl⟩ : ∃ b', b = b' + 1 := ⟨b - 1, by omega⟩
        rw [Nat.pow_succ]; simp at this h1; omega
      have HE := Lib.hid (HCO.out b hp)
      clear HX HCO hp hx1 hxM hg
      go_wp2_with fail
      go_loopg [12, 13, 40] L4 (fun g vl vs vi wr => ∃ (q : Nat), vi = .int .i64 q ∧ vl = .int .i64 (cnt 1 cs q : Nat) ∧ vs = .int .i64 (cnt 2 cs q : Nat) ∧ cnt 1 cs q ≤ q ∧ cnt 2 cs q ≤ q ∧ q ≤ L4 ∧ L4 - q ≤ g ∧ Hid (Below w4.heap.size w4 wr))
      case atStart => exact ⟨0, rfl, rfl, rfl, by simp [cnt], by simp [cnt], by omega, by omega, Below.refl _ _⟩
      case round =>
        obtain ⟨q, rfl, rfl, rfl, hc1, hc2, hqL, hgq, HR⟩ := hrel
        by_cases hlt : q < L4
        · have hltz : (q : Int) < (L4 : Int) := by omega
          have HCR := Lib.hid (HCS.out.below HR.out)
          obtain ⟨x1, x2, x3, x4⟩ := HCR.out.at hlt
          have hg4 : g4 < wr.heap.size := HCR.out.2.1
          have hqz : 0 ≤ (q : Int) := by omega
          have HS1 := Lib.hid (cnt_step 1 cs q (by rw [HL.out]; exact hlt))
          have HS2 := Lib.hid (cnt_step 2 cs q (by rw [HL.out]; exact hlt))
          rcases HAT.out q (by rw [HL.out]; exact hlt) with ⟨h0, hC, _⟩ | ⟨h0, i, j, hi, hj, hC, _⟩ | ⟨h0, i, j, hi, hj, hC, _⟩
          · rw [hC] at x1 x2 x3 x4 HS1 HS2
            subst h0
            generalize cnt 1 cs 0 = p1 at *
            generalize cnt 2 cs 0 = p2 at *
            go_wp2_with fail
            go_roundg (L4 - (0 + 1))
            case measure => omega
            case rel => exact ⟨0 + 1, by go_num, by rw [HS1.out]; simp, by rw [HS2.out]; simp, by rw [HS1.out]; simp; omega, by rw [HS2.out]; simp; omega, by omega, Nat.le_refl _, HR.out.alloc HR.out.size _⟩
          · rw [hC] at x1 x2 x3 x4 HS1 HS2
            clear hC
            generalize ltT _ _ _ _ = yes at x4 HS1 HS2
            have e1 : cnt 1 cs (q + 1) = cnt 1 cs q + 1 := by rw [HS1.out]; simp
            have e2 : cnt 2 cs (q + 1) = cnt 2 cs q := by rw [HS2.out]; simp
            have HEE := Lib.hid (And.intro e1 e2)
            clear e1 e2 HS1 HS2
            generalize cnt 1 cs q = p1 at *
            generalize cnt 2 cs q = p2 at *
            go_wp2_with fail
            go_roundg (L4 - (q + 1))
            case measure => omega
            case rel => exact ⟨q + 1, by go_num, by rw [HEE.out.1]; go_num, by rw [HEE.out.2], by rw [HEE.out.1]; omega, by rw [HEE.out.2]; omega, by omega, Nat.le_refl _, HR.out.alloc HR.out.size _⟩
          · rw [hC] at x1 x2 x3 x4 HS1 HS2
            clear hC
            have e1 : cnt 1 cs (q + 1) = cnt 1 cs q := by rw [HS1.out]; simp
            have e2 : cnt 2 cs (q + 1) = cnt 2 cs q + 1 := by rw [HS2.out]; simp
            have HEE := Lib.hid (And.intro e1 e2)
            clear e1 e2 HS1 HS2
            generalize cnt 1 cs q = p1 at *
            generalize cnt 2 cs q = p2 at *
            go_wp2_with fail
            go_roundg (L4 - (q + 1))
            case measure => omega
            case rel => exact ⟨q + 1, by go_num, by rw [HEE.out.1], by rw [HEE.out.2]; go_num, by rw [HEE.out.1]; omega, by rw [HEE.out.2]; omega, by omega, Nat.le_refl _, HR.out.alloc HR.out.size _⟩
        · have hltz : ¬ (q : Int) < (L4 : Int) := by omega
          obtain rfl : q = L4 := by omega
          have hE := HE.out
          generalize cnt 1 cs q = p1 at *
          generalize cnt 2 cs q = p2 at *
          have hbb := calls_num M b p1 p2 hM3 hb1 hb12 hE.1 hE.2
          obtain ⟨n1, n2, n3, n4, n5, n6, n7, n8⟩ := hbb
          go_wp2_with fail
          go_ret
          exact ⟨rfl, HBB.out.trans (HR.out.mono HBB.out.size)⟩

theorem FnCallsBounded_said {A B : Option Addr} {n c m d : Nat} {zs ks : List Int} (w : World) (hz : IntsR w A n zs) (hnc : n ≤ c) (hc : c ≤ maxLen) (hk : IntsR w B m ks) (hmd : m ≤ d) (hd : d ≤ maxLen) :
    Calls Try.prog 6 #[.slice A n c, .slice B m d] w fun e w' => e = .returned (.bool true) ∧ Below w.heap.size w w' :=
  FnCallsBounded_walk A B n c m d zs ks w hz hk (Nat.le_trans hnc hc) hnc (Nat.le_trans hmd hd) hmd
end Go.Proofs.Ytlekkpjghamhcaa
