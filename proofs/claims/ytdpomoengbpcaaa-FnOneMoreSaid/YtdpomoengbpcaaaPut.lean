/- Walks: laws.put. -/
import Derived.Test.YtdpomoengbpcaaaHelpG
import Derived.Deep.RegionHeld3
namespace Go.Proofs.Ytdpomoengbpcaaa
open Go.RowKit Go.Sort Go.Lib

theorem ItemsR.takeI {w : World} {b o m : Nat} {xs : List It} (h : ItemsR w b o m xs) (ct : Nat) (hc : ct ≤ m) : ItemsR w b o ct (xs.take ct) := by
  refine ⟨by rw [List.length_take, h.1]; omega, h.2.1, fun i hi => ?_⟩
  have := h.2.2 i (by omega)
  rw [List.getD_eq_getElem?_getD, List.getElem?_take_of_lt hi, ← List.getD_eq_getElem?_getD]
  exact this
theorem ItemsR.dropI {w : World} {b ct r : Nat} {xs : List It} (h : ItemsR w b 0 (ct + r) xs) : ItemsR w b (ct * 2) r (xs.drop ct) := by
  refine ⟨by rw [List.length_drop, h.1]; omega, h.2.1, fun i hi => ?_⟩
  have := h.2.2 (ct + i) (by omega)
  rw [List.getD_eq_getElem?_getD, List.getElem?_drop, ← List.getD_eq_getElem?_getD]
  rw [show 0 + (ct + i) * 2 = ct * 2 + i * 2 by omega] at this
  exact this
theorem ItemsR.grownBy {w W : World} {b o n r : Nat} {xs : List It} (h : ItemsR w b o n xs) (hg : w.grownBy W (some r)) (hne : b ≠ r) : ItemsR W b o n xs :=
  ⟨h.1, Nat.lt_of_lt_of_le h.2.1 hg.size, fun i hi => by
    have hb : W.heap[b]? = w.heap[b]? := hg.block b h.2.1 (fun e => by injection e with e; exact hne e)
    exact ⟨(World.cell?_of_block hb).trans (h.2.2 i hi).1, (World.cell?_of_block hb).trans (h.2.2 i hi).2⟩⟩
/-- A row with nothing in it, in the worlds behind it. -/
theorem ownE (w : World) (base S : Nat) (hS : w.heap.size = S) (hb : base ≤ S) : OwnI (w.alloc (.cells #[] 35)) base S 0 [] := by
  subst hS; exact (OwnI.made w).mono hb
theorem oneI (w : World) (S : Nat) (hS : w.heap.size = S) (x : It) : ItemsR (w.alloc (.cells #[.int .i64 x.1, .int .i64 x.2] 35)) S 0 1 [x] := by
  subst hS; exact ItemsR.one w x.1 x.2

set_option maxHeartbeats 2000000 in
set_option maxRecDepth 100000 in
theorem put_yes (bl k r cl bw cw : Nat) (xs : List It) (x : It) (w : World) (hx : ItemsR w bl 0 (k + r) xs) (hc : k + r ≤ cl) (hw : ItemsR w bw 0 (k + 1 + r) (xs.take k ++ x :: xs.drop k)) (hm : k + r ≤ 100000) :
    Calls Try.prog 16 #[.slice (some ⟨bl, 0, none⟩) (k + r) cl, .int .i64 k, .agg #[.int .i64 x.1, .int .i64 x.2], .slice (some ⟨bw, 0, none⟩) (k + 1 + r) cw] w fun e w' => e = .returned (.bool true) ∧ Below w.heap.size w w' := by
  obtain ⟨o, hD⟩ : ∃ o, (if cl = k then some (⟨bl, 0, none⟩ : Addr) else some ⟨bl, k * 2, none⟩) = some ⟨bl, o, none⟩ ∧ ItemsR w bl o r (xs.drop k) := by
    by_cases e : cl = k
    · refine ⟨0, by rw [if_pos e], ?_⟩
      obtain rfl : r = 0 := by omega
      have hl := hx.1
      rw [List.drop_of_length_le (by omega)]
      exact ⟨rfl, hx.2.1, fun i hi => absurd hi (by omega)⟩
    · exact ⟨k * 2, by rw [if_neg e], hx.dropI⟩
  have HX := Lib.hid (hx.takeI k (by omega))
  have HD := Lib.hid hD
  have HW := Lib.hid hw
  have h1 : ¬ ((k + r : Nat) : Int) < (k : Int) := by omega
  have h1' : ¬ ((k : Int) + (r : Int)) < (k : Int) := by omega
  have h2 : (k : Int) ≤ (cl : Int) := by omega
  have h2n : k ≤ cl := by omega
  have x0 : (w.alloc (.cells #[.int .i64 x.1, .int .i64 x.2] 35)).cell? ⟨w.heap.size, 0, none⟩ = some (.int .i64 x.1) := by simp
  have x1 : (w.alloc (.cells #[.int .i64 x.1, .int .i64 x.2] 35)).cell? ⟨w.heap.size, 1, none⟩ = some (.int .i64 x.2) := by simp
  have HB := Lib.hid (below_a w (.cells #[.int .i64 x.1, .int .i64 x.2] 35))
  have HS := Lib.hid (show (w.alloc (.cells #[.int .i64 x.1, .int .i64 x.2] 35)).heap.size = w.heap.size + 1 by simp)
  clear hx hw hD
  go_enter Try.func16, Try.ntmps16
  go_upto_region 3 with fail
  generalize w.alloc (.cells #[.int .i64 x.1, .int .i64 x.2] 35) = w1 at x0 x1 HB HS ⊢
  generalize hS0 : w.heap.size = S at x0 x1 HS ⊢
  have HS0 := Lib.hid hS0
  clear hS0
  have BX := Lib.hid (fun (W : World) (hb : Below w1.heap.size w1 W) => show ItemsR W bl 0 k (xs.take k) ∧ ItemsR W bl o r (xs.drop k) ∧ ItemsR W bw 0 (k + 1 + r) (xs.take k ++ x :: xs.drop k) ∧ Below w.heap.size w W ∧ W.cell? ⟨S, 0, none⟩ = some (.int .i64 x.1) ∧ W.cell? ⟨S, 1, none⟩ = some (.int .i64 x.2) from by
    have hbw : Below w.heap.size w W := HB.out.trans (hb.mono HB.out.size)
    have hs : S < w1.heap.size := by rw [HS.out]; omega
    exact ⟨HX.out.below hbw, HD.out.2.below hbw, HW.out.below hbw, hbw, (hb.cell (p := ⟨S, 0, none⟩) hs).trans x0, (hb.cell (p := ⟨S, 1, none⟩) hs).trans x1⟩)
  have hsd : w1.drew.heap.size = w1.heap.size := rfl
  have hsE : (w1.drew.alloc (.cells #[] 35)).heap.size = w1.heap.size + 1 := by rw [World.size_alloc, hsd]
  have hsX : (w1.drew.alloc (.cells #[.int .i64 x.1, .int .i64 x.2] 35)).heap.size = w1.heap.size + 1 := by rw [World.size_alloc, hsd]
  have O1 := Lib.hid (And.intro (show 0 = ([] : List It).length from rfl) (ownE w1.drew (w1.heap.size) (w1.heap.size) hsd (Nat.le_refl _)))
  have O2 := Lib.hid (And.intro (show 0 = ([] : List It).length from rfl) ((ownE w1.drew (w1.heap.size) (w1.heap.size) hsd (Nat.le_refl _)).alloc (.cells #[.int .i64 x.1, .int .i64 x.2] 35)))
  have O3 := Lib.hid (And.intro (show 0 = ([] : List It).length from rfl) (ownE (w1.drew.alloc (.cells #[.int .i64 x.1, .int .i64 x.2] 35)) (w1.heap.size) (w1.heap.size + 1) hsX (by omega)))
  have b1 := below_da w1 (.cells #[] 35)
  have b2 : Below w1.heap.size w1 ((w1.drew.alloc (.cells #[] 35)).alloc (.cells #[.int .i64 x.1, .int .i64 x.2] 35)) := b1.alloc b1.size _
  have b3 : Below w1.heap.size w1 ((w1.drew.alloc (.cells #[.int .i64 x.1, .int .i64 x.2] 35)).alloc (.cells #[] 35)) := (below_da w1 (.cells #[.int .i64 x.1, .int .i64 x.2] 35)).alloc (below_da w1 (.cells #[.int .i64 x.1, .int .i64 x.2] 35)).size _
  have B1 := Lib.hid b1
  have B2 := Lib.hid b2
  have B3 := Lib.hid b3
  have I2 := Lib.hid (oneI (w1.drew.alloc (.cells #[] 35)) (w1.heap.size + 1) hsE x)
  have I3 := Lib.hid ((oneI w1.drew (w1.heap.size) hsd x).alloc (.cells #[] 35))
  have HZ := Lib.hid (And.intro hsE hsX)
  clear hsd hsE hsX b1 b2 b3 HB HS
  by_cases hcc : cl = k
  · obtain rfl : r = 0 := by omega
    subst hcc
    obtain rfl : o = 0 := by
      have h := HD.out.1
      rw [if_pos rfl] at h
      injection h with h; injection h with _ h2; exact h2.symm
    go_region_held3 (fun w' => w'.cell? ⟨S, 0, none⟩ = some (.int .i64 x.1) ∧ w'.cell? ⟨S, 1, none⟩ = some (.int .i64 x.2)) (go_keep)
      (first
        | (go_at_call 13; refine (same_eq b7 0 (cl + 1 + 0) c7 bw 0 cw _ _ HI7.out (BX.out w7 HB7.out).2.2.1 (by omega)).mono ?_; rintro e w8 ⟨rfl, qq, rfl⟩; have k6 : (w7.drewN qq).cell? ⟨S, 0, none⟩ = some (.int .i64 x.1) := k4; have k7 : (w7.drewN qq).cell? ⟨S, 1, none⟩ = some (.int .i64 x.2) := k5)
        | (refine step_appI rfl (.tmp 13) (.tmp 16) rfl (w1.heap.size) (w1.heap.size) 0 0 [] rfl O1.out bl 0 cl cl (xs.take cl) rfl (BX.out _ B1.out).1 (by omega) B1.out.size ?_; intro b5 c5 w5 hown5 hgrow5; have HB5 := Lib.hid (show Below w1.heap.size w1 w5 from below_app B1.out hgrow5.out B1.out.size (by omega));  obtain ⟨_, _, _, _, k0, k1⟩ := BX.out w5 HB5.out; have hs5 : w1.heap.size ≤ w5.heap.size := HB5.out.size; have HO5 := Lib.hid (show cl = (xs.take cl).length ∧ OwnI w5 (w1.heap.size) b5 c5 (xs.take cl) from by have h := hown5.out; rw [List.nil_append, Nat.zero_add] at h; exact h))
        | (refine step_appI rfl (.tmp 13) (.tmp 16) rfl (w1.heap.size) (w1.heap.size) 0 0 [] rfl O2.out bl 0 cl cl (xs.take cl) rfl (BX.out _ B2.out).1 (by omega) B2.out.size ?_; intro b5 c5 w5 hown5 hgrow5; have HB5 := Lib.hid (show Below w1.heap.size w1 w5 from below_app B2.out hgrow5.out B2.out.size (by omega)); have HX5 := Lib.hid (show ItemsR w5 (w1.heap.size + 1) 0 1 [x] from I2.out.grownBy hgrow5.out (by omega)); obtain ⟨_, _, _, _, k0, k1⟩ := BX.out w5 HB5.out; have hs5 : w1.heap.size ≤ w5.heap.size := HB5.out.size; have HO5 := Lib.hid (show cl = (xs.take cl).length ∧ OwnI w5 (w1.heap.size) b5 c5 (xs.take cl) from by have h := hown5.out; rw [List.nil_append, Nat.zero_add] at h; exact h))
        | (refine step_appI rfl (.tmp 13) (.tmp 16) rfl (w1.heap.size) (w1.heap.size + 1) 0 0 [] rfl O3.out bl 0 cl cl (xs.take cl) rfl (BX.out _ B3.out).1 (by omega) B3.out.size ?_; intro b5 c5 w5 hown5 hgrow5; have HB5 := Lib.hid (show Below w1.heap.size w1 w5 from below_app B3.out hgrow5.out B3.out.size (by omega)); have HX5 := Lib.hid (show ItemsR w5 (w1.heap.size) 0 1 [x] from I3.out.grownBy hgrow5.out (by omega)); obtain ⟨_, _, _, _, k0, k1⟩ := BX.out w5 HB5.out; have hs5 : w1.heap.size ≤ w5.heap.size := HB5.out.size; have HO5 := Lib.hid (show cl = (xs.take cl).length ∧ OwnI w5 (w1.heap.size) b5 c5 (xs.take cl) from by have h := hown5.out; rw [List.nil_append, Nat.zero_add] at h; exact h))
        | (refine step_appI rfl (.tmp 17) (.tmp 19) rfl (w1.heap.size) b5 c5 cl (xs.take cl) rfl (And.intro HO5.out.1 (HO5.out.2.alloc (.cells #[.int .i64 x.1, .int .i64 x.2] 35))) w5.heap.size 0 1 1 [x] rfl (oneI w5 _ rfl x) (by omega) (by rw [World.size_alloc]; omega) ?_; intro b6 c6 w6 hown6 hgrow6; have HB6 := Lib.hid (show Below w1.heap.size w1 w6 from below_app (HB5.out.alloc HB5.out.size _) hgrow6.out (by rw [World.size_alloc]; have := HB5.out.size; omega) HO5.out.2.lt.1); obtain ⟨_, _, _, _, k2, k3⟩ := BX.out w6 HB6.out; have hs6 : w1.heap.size ≤ w6.heap.size := HB6.out.size)
        | (refine step_appI rfl (.tmp 17) (.tmp 19) rfl (w1.heap.size) b5 c5 cl (xs.take cl) rfl HO5.out (w1.heap.size + 1) 0 1 1 [x] rfl HX5.out (by omega) hs5 ?_; intro b6 c6 w6 hown6 hgrow6; have HB6 := Lib.hid (show Below w1.heap.size w1 w6 from below_app HB5.out hgrow6.out HB5.out.size HO5.out.2.lt.1); obtain ⟨_, _, _, _, k2, k3⟩ := BX.out w6 HB6.out; have hs6 : w1.heap.size ≤ w6.heap.size := HB6.out.size)
        | (refine step_appI rfl (.tmp 17) (.tmp 19) rfl (w1.heap.size) b5 c5 cl (xs.take cl) rfl HO5.out (w1.heap.size) 0 1 1 [x] rfl HX5.out (by omega) hs5 ?_; intro b6 c6 w6 hown6 hgrow6; have HB6 := Lib.hid (show Below w1.heap.size w1 w6 from below_app HB5.out hgrow6.out HB5.out.size HO5.out.2.lt.1); obtain ⟨_, _, _, _, k2, k3⟩ := BX.out w6 HB6.out; have hs6 : w1.heap.size ≤ w6.heap.size := HB6.out.size)
        | (rw [Nat.zero_add]; refine step_appI rfl (.tmp 17) (.tmp 19) rfl (w1.heap.size) b5 c5 cl (xs.take cl) rfl (And.intro HO5.out.1 (HO5.out.2.alloc (.cells #[.int .i64 x.1, .int .i64 x.2] 35))) w5.heap.size 0 1 1 [x] rfl (oneI w5 _ rfl x) (by omega) (by rw [World.size_alloc]; omega) ?_; intro b6 c6 w6 hown6 hgrow6; have HB6 := Lib.hid (show Below w1.heap.size w1 w6 from below_app (HB5.out.alloc HB5.out.size _) hgrow6.out (by rw [World.size_alloc]; have := HB5.out.size; omega) HO5.out.2.lt.1); obtain ⟨_, _, _, _, k2, k3⟩ := BX.out w6 HB6.out; have hs6 : w1.heap.size ≤ w6.heap.size := HB6.out.size)
        | (rw [Nat.zero_add]; refine step_appI rfl (.tmp 17) (.tmp 19) rfl (w1.heap.size) b5 c5 cl (xs.take cl) rfl HO5.out (w1.heap.size + 1) 0 1 1 [x] rfl HX5.out (by omega) hs5 ?_; intro b6 c6 w6 hown6 hgrow6; have HB6 := Lib.hid (show Below w1.heap.size w1 w6 from below_app HB5.out hgrow6.out HB5.out.size HO5.out.2.lt.1); obtain ⟨_, _, _, _, k2, k3⟩ := BX.out w6 HB6.out; have hs6 : w1.heap.size ≤ w6.heap.size := HB6.out.size)
        | (rw [Nat.zero_add]; refine step_appI rfl (.tmp 17) (.tmp 19) rfl (w1.heap.size) b5 c5 cl (xs.take cl) rfl HO5.out (w1.heap.size) 0 1 1 [x] rfl HX5.out (by omega) hs5 ?_; intro b6 c6 w6 hown6 hgrow6; have HB6 := Lib.hid (show Below w1.heap.size w1 w6 from below_app HB5.out hgrow6.out HB5.out.size HO5.out.2.lt.1); obtain ⟨_, _, _, _, k2, k3⟩ := BX.out w6 HB6.out; have hs6 : w1.heap.size ≤ w6.heap.size := HB6.out.size)
        | (refine step_appI rfl (.tmp 20) (.tmp 23) rfl (w1.heap.size) b6 c6 (cl + 1) (xs.take cl ++ [x]) rfl hown6 bl 0 0 0 (xs.drop cl) rfl (BX.out w6 HB6.out).2.1 (by omega) hs6 ?_; intro b7 c7 w7 hown7 hgrow7; have HB7 := Lib.hid (show Below w1.heap.size w1 w7 from below_app HB6.out hgrow7.out HB6.out.size hown6.out.2.lt.1); obtain ⟨_, _, _, _, k4, k5⟩ := BX.out w7 HB7.out; have HI7 := Lib.hid (show ItemsR w7 b7 0 (cl + 1 + 0) (xs.take cl ++ x :: (xs.drop cl)) from by have h := hown7.out; have hi := h.2.items; rw [← h.1, List.append_assoc] at hi; exact hi)))
    all_goals
      go_wp2_with fail
      go_ret
      exact ⟨rfl, below_drewN (BX.out w7 HB7.out).2.2.2.1 qq⟩

  · obtain rfl : o = k * 2 := by
      have h := HD.out.1
      rw [if_neg hcc] at h
      injection h with h; injection h with _ h2; exact h2.symm
    have hcc2 : ¬ k = cl := fun e => hcc e.symm
    have hcc' : ¬ cl = k := hcc
    have hsub : k + r - k = r := by omega
    have h5 : (k : Int) ≤ ((k + r : Nat) : Int) := by omega
    have h5' : (k : Int) ≤ (k : Int) + (r : Int) := by omega
    have h6 : k + r ≤ cl := hc
    go_region_held3 (fun w' => w'.cell? ⟨S, 0, none⟩ = some (.int .i64 x.1) ∧ w'.cell? ⟨S, 1, none⟩ = some (.int .i64 x.2)) (go_keep)
      (first
        | (go_at_call 13; refine (same_eq b7 0 (k + 1 + r) c7 bw 0 cw _ _ HI7.out (BX.out w7 HB7.out).2.2.1 (by omega)).mono ?_; rintro e w8 ⟨rfl, qq, rfl⟩; have k6 : (w7.drewN qq).cell? ⟨S, 0, none⟩ = some (.int .i64 x.1) := k4; have k7 : (w7.drewN qq).cell? ⟨S, 1, none⟩ = some (.int .i64 x.2) := k5)
        | (refine step_appI rfl (.tmp 13) (.tmp 16) rfl (w1.heap.size) (w1.heap.size) 0 0 [] rfl O1.out bl 0 k cl (xs.take k) rfl (BX.out _ B1.out).1 (by omega) B1.out.size ?_; intro b5 c5 w5 hown5 hgrow5; have HB5 := Lib.hid (show Below w1.heap.size w1 w5 from below_app B1.out hgrow5.out B1.out.size (by omega));  obtain ⟨_, _, _, _, k0, k1⟩ := BX.out w5 HB5.out; have hs5 : w1.heap.size ≤ w5.heap.size := HB5.out.size; have HO5 := Lib.hid (show k = (xs.take k).length ∧ OwnI w5 (w1.heap.size) b5 c5 (xs.take k) from by have h := hown5.out; rw [List.nil_append, Nat.zero_add] at h; exact h))
        | (refine step_appI rfl (.tmp 13) (.tmp 16) rfl (w1.heap.size) (w1.heap.size) 0 0 [] rfl O2.out bl 0 k cl (xs.take k) rfl (BX.out _ B2.out).1 (by omega) B2.out.size ?_; intro b5 c5 w5 hown5 hgrow5; have HB5 := Lib.hid (show Below w1.heap.size w1 w5 from below_app B2.out hgrow5.out B2.out.size (by omega)); have HX5 := Lib.hid (show ItemsR w5 (w1.heap.size + 1) 0 1 [x] from I2.out.grownBy hgrow5.out (by omega)); obtain ⟨_, _, _, _, k0, k1⟩ := BX.out w5 HB5.out; have hs5 : w1.heap.size ≤ w5.heap.size := HB5.out.size; have HO5 := Lib.hid (show k = (xs.take k).length ∧ OwnI w5 (w1.heap.size) b5 c5 (xs.take k) from by have h := hown5.out; rw [List.nil_append, Nat.zero_add] at h; exact h))
        | (refine step_appI rfl (.tmp 13) (.tmp 16) rfl (w1.heap.size) (w1.heap.size + 1) 0 0 [] rfl O3.out bl 0 k cl (xs.take k) rfl (BX.out _ B3.out).1 (by omega) B3.out.size ?_; intro b5 c5 w5 hown5 hgrow5; have HB5 := Lib.hid (show Below w1.heap.size w1 w5 from below_app B3.out hgrow5.out B3.out.size (by omega)); have HX5 := Lib.hid (show ItemsR w5 (w1.heap.size) 0 1 [x] from I3.out.grownBy hgrow5.out (by omega)); obtain ⟨_, _, _, _, k0, k1⟩ := BX.out w5 HB5.out; have hs5 : w1.heap.size ≤ w5.heap.size := HB5.out.size; have HO5 := Lib.hid (show k = (xs.take k).length ∧ OwnI w5 (w1.heap.size) b5 c5 (xs.take k) from by have h := hown5.out; rw [List.nil_append, Nat.zero_add] at h; exact h))
        | (refine step_appI rfl (.tmp 17) (.tmp 19) rfl (w1.heap.size) b5 c5 k (xs.take k) rfl (And.intro HO5.out.1 (HO5.out.2.alloc (.cells #[.int .i64 x.1, .int .i64 x.2] 35))) w5.heap.size 0 1 1 [x] rfl (oneI w5 _ rfl x) (by omega) (by rw [World.size_alloc]; omega) ?_; intro b6 c6 w6 hown6 hgrow6; have HB6 := Lib.hid (show Below w1.heap.size w1 w6 from below_app (HB5.out.alloc HB5.out.size _) hgrow6.out (by rw [World.size_alloc]; have := HB5.out.size; omega) HO5.out.2.lt.1); obtain ⟨_, _, _, _, k2, k3⟩ := BX.out w6 HB6.out; have hs6 : w1.heap.size ≤ w6.heap.size := HB6.out.size)
        | (refine step_appI rfl (.tmp 17) (.tmp 19) rfl (w1.heap.size) b5 c5 k (xs.take k) rfl HO5.out (w1.heap.size + 1) 0 1 1 [x] rfl HX5.out (by omega) hs5 ?_; intro b6 c6 w6 hown6 hgrow6; have HB6 := Lib.hid (show Below w1.heap.size w1 w6 from below_app HB5.out hgrow6.out HB5.out.size HO5.out.2.lt.1); obtain ⟨_, _, _, _, k2, k3⟩ := BX.out w6 HB6.out; have hs6 : w1.heap.size ≤ w6.heap.size := HB6.out.size)
        | (refine step_appI rfl (.tmp 17) (.tmp 19) rfl (w1.heap.size) b5 c5 k (xs.take k) rfl HO5.out (w1.heap.size) 0 1 1 [x] rfl HX5.out (by omega) hs5 ?_; intro b6 c6 w6 hown6 hgrow6; have HB6 := Lib.hid (show Below w1.heap.size w1 w6 from below_app HB5.out hgrow6.out HB5.out.size HO5.out.2.lt.1); obtain ⟨_, _, _, _, k2, k3⟩ := BX.out w6 HB6.out; have hs6 : w1.heap.size ≤ w6.heap.size := HB6.out.size)
        | (rw [Nat.zero_add]; refine step_appI rfl (.tmp 17) (.tmp 19) rfl (w1.heap.size) b5 c5 k (xs.take k) rfl (And.intro HO5.out.1 (HO5.out.2.alloc (.cells #[.int .i64 x.1, .int .i64 x.2] 35))) w5.heap.size 0 1 1 [x] rfl (oneI w5 _ rfl x) (by omega) (by rw [World.size_alloc]; omega) ?_; intro b6 c6 w6 hown6 hgrow6; have HB6 := Lib.hid (show Below w1.heap.size w1 w6 from below_app (HB5.out.alloc HB5.out.size _) hgrow6.out (by rw [World.size_alloc]; have := HB5.out.size; omega) HO5.out.2.lt.1); obtain ⟨_, _, _, _, k2, k3⟩ := BX.out w6 HB6.out; have hs6 : w1.heap.size ≤ w6.heap.size := HB6.out.size)
        | (rw [Nat.zero_add]; refine step_appI rfl (.tmp 17) (.tmp 19) rfl (w1.heap.size) b5 c5 k (xs.take k) rfl HO5.out (w1.heap.size + 1) 0 1 1 [x] rfl HX5.out (by omega) hs5 ?_; intro b6 c6 w6 hown6 hgrow6; have HB6 := Lib.hid (show Below w1.heap.size w1 w6 from below_app HB5.out hgrow6.out HB5.out.size HO5.out.2.lt.1); obtain ⟨_, _, _, _, k2, k3⟩ := BX.out w6 HB6.out; have hs6 : w1.heap.size ≤ w6.heap.size := HB6.out.size)
        | (rw [Nat.zero_add]; refine step_appI rfl (.tmp 17) (.tmp 19) rfl (w1.heap.size) b5 c5 k (xs.take k) rfl HO5.out (w1.heap.size) 0 1 1 [x] rfl HX5.out (by omega) hs5 ?_; intro b6 c6 w6 hown6 hgrow6; have HB6 := Lib.hid (show Below w1.heap.size w1 w6 from below_app HB5.out hgrow6.out HB5.out.size HO5.out.2.lt.1); obtain ⟨_, _, _, _, k2, k3⟩ := BX.out w6 HB6.out; have hs6 : w1.heap.size ≤ w6.heap.size := HB6.out.size)
        | (refine step_appI rfl (.tmp 20) (.tmp 23) rfl (w1.heap.size) b6 c6 (k + 1) (xs.take k ++ [x]) rfl hown6 bl (k * 2) r (cl - k) (xs.drop k) rfl (BX.out w6 HB6.out).2.1 (by omega) hs6 ?_; intro b7 c7 w7 hown7 hgrow7; have HB7 := Lib.hid (show Below w1.heap.size w1 w7 from below_app HB6.out hgrow7.out HB6.out.size hown6.out.2.lt.1); obtain ⟨_, _, _, _, k4, k5⟩ := BX.out w7 HB7.out; have HI7 := Lib.hid (show ItemsR w7 b7 0 (k + 1 + r) (xs.take k ++ x :: (xs.drop k)) from by have h := hown7.out; have hi := h.2.items; rw [← h.1, List.append_assoc] at hi; exact hi)))
    all_goals
      go_wp2_with fail
      go_ret
      exact ⟨rfl, below_drewN (BX.out w7 HB7.out).2.2.2.1 qq⟩
end Go.Proofs.Ytdpomoengbpcaaa
