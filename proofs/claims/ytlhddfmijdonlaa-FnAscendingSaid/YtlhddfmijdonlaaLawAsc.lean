/- Walks: laws.FnAscending returns true. -/
import Derived.Test.YtlhddfmijdonlaaRoads
import Derived.Test.YtlhddfmijdonlaaRdB
namespace Go.Proofs.Ytlhddfmijdonlaa
open Go.RowKit Go.Sort Go.Lib

set_option maxHeartbeats 4000000 in
set_option maxRecDepth 100000 in
theorem FnAscending_said (w : World) (N : Int) (_wN : (Lit.int .i64 N).wf = true) {A B : Option Addr} {n c m d : Nat} {zs ks : List Int} (hz : IntsR w A n zs) (hnc : n ≤ c) (hc : c ≤ maxLen) (hk : IntsR w B m ks) (hmd : m ≤ d) (hd : d ≤ maxLen) :
    Calls Try.prog 7 #[.int .i64 N, .slice A n c, .slice B m d] w fun e w' => e = .returned (.bool true) ∧ Below w.heap.size w w' := by
  have hn : n ≤ maxLen := Nat.le_trans hnc hc
  have HC := Lib.hid (fits_any N A n c zs B m d ks w hz hn hk (Nat.le_trans hmd hd))
  have HZ := Lib.hid hz
  have HK := Lib.hid hk
  have HN := Lib.hid hn
  clear hz hk hn hnc hc hmd hd
  go_enter Try.func7, Try.ntmps7
  go_wp2_with fail
  refine HC.out.mono ?_
  rintro e w' ⟨r, rfl, hr, rfl⟩
  cases r with
  | false =>
    clear hr
    go_wp2_with fail
    go_ret
    exact ⟨rfl, Below.refl _ _⟩
  | true =>
    obtain ⟨f1, _, _, f4, f5⟩ := hr rfl
    have hasc := fun p hp => asc_at f5 ks f4 p hp
    have hm3 : m ≤ 3000 := by have := HK.out.1; omega
    rw [HK.out.1] at hasc
    have HA := Lib.hid hasc
    clear hr f1 f4 f5 hasc HC
    go_wp2_with fail
    refine (entries_any B m d ks w HK.out (by omega)).mono ?_
    rintro e w3 ⟨b3, c3, rfl, hown3, hb3⟩
    have H3 := Lib.hid (And.intro (show ItemsR w3 b3 0 m (ents ks) from ⟨by rw [ents_length]; exact HK.out.1, hown3.items.2.1, by have := hown3.items.2.2; rw [ents_length, HK.out.1] at this; exact this⟩) hb3)
    clear hown3 hb3
    go_wp2_with fail
    refine (roads_any N A n c zs b3 0 m c3 (ents ks) w3 (HZ.out.below H3.out.2) HN.out H3.out.1 (by omega)).mono ?_
    rintro e w4 ⟨r0, q0, r1, q1, r2, q2, rfl, hrd, hb4⟩
    have HB := Lib.hid (H3.out.2.trans (hb4.mono H3.out.2.size))
    have HS := Lib.hid hrd
    generalize sorted (ltT N zs) (ents ks) = S at HS HA
    clear H3 hrd hb4 HK
    have HZ4 := Lib.hid (HZ.out.below HB.out)
    go_wp2_with fail
    go_loopg [22] 3 (fun g vi wr => ∃ (i : Nat), vi = .int .i64 i ∧ i ≤ 3 ∧ 3 - i ≤ g ∧ Hid (Below w4.heap.size w4 wr))
    case atStart => exact ⟨0, rfl, by omega, by omega, Below.refl _ _⟩
    case round =>
      obtain ⟨i, rfl, hi3, hg, HR⟩ := hrel
      by_cases hlt : i < 3
      · have hltz : (i : Int) < 3 := by omega
        obtain ⟨b, cc, hp3, hpr⟩ := pick3_slice r0 q0 r1 q1 r2 q2 m i
        have HIT := Lib.hid (hpr wr S (HS.out.below HR.out))
        have HZW := Lib.hid (HZ4.out.below HR.out)
        clear hpr
        go_wp2_with (refine wpList_index3 rfl (.tmp 21) (.tmp 22) rfl _ _ _ rfl i hlt rfl ?_; rw [hp3])
        go_loopg [9] m (fun g vj wr2 => ∃ (j : Nat), vj = .int .i64 j ∧ 1 ≤ j ∧ (j ≤ m ∨ j ≤ 1) ∧ m - j ≤ g ∧ Hid (Below wr.heap.size wr wr2))
        case atStart => exact ⟨1, rfl, by omega, by omega, by omega, Below.refl _ _⟩
        case round =>
          obtain ⟨j, rfl, hj1, hjm, hg2, HR2⟩ := hrel
          by_cases hlt2 : j < m
          · have hltz2 : (j : Int) < (m : Int) := by omega
            obtain ⟨p, rfl⟩ : ∃ p, j = p + 1 := ⟨j - 1, by omega⟩
            obtain ⟨x1, x2⟩ := (HIT.out.below HR2.out).2.2 p (by omega)
            obtain ⟨y1, y2⟩ := (HIT.out.below HR2.out).2.2 (p + 1) hlt2
            have HZI := Lib.hid (HZW.out.below HR2.out)
            have HSG := Lib.hid (fun k => ((Sign_any N A n c zs (S.getD p (0, 0)).1 (S.getD (p + 1) (0, 0)).1 (wr.drewN k) (by exact HZI.out) HN.out).mono fun _ _ ⟨he, hw⟩ => ⟨he, hw.symm⟩ : Calls Try.prog 24 #[.int .i64 N, .slice A n c, .int .i64 (S.getD p (0, 0)).1, .int .i64 (S.getD (p + 1) (0, 0)).1] (wr.drewN k) fun e w' => e = .returned (.int .i64 (sgn (num N zs (S.getD p (0, 0)).1 (S.getD (p + 1) (0, 0)).1))) ∧ w' = wr.drewN k))
            have ha := HA.out p (by omega)
            unfold sg at ha
            generalize sgn (num N zs (S.getD p (0, 0)).1 (S.getD (p + 1) (0, 0)).1) = z at HSG ha
            generalize S.getD p (0, 0) = X at x1 x2 HSG ha
            generalize S.getD (p + 1) (0, 0) = Y at y1 y2 HSG ha
            simp only [Nat.zero_add] at x1 x2 y1 y2
            have pz : (p : Int) < (m : Int) := by omega
            have hwp : IntKind.i64.wrap (p : Int) = (p : Int) := by rw [IntKind.wrap_i64]; omega
            have jz : (p : Int) + 1 < (m : Int) := by omega
            have p0 : (0 : Int) ≤ (p : Int) + 1 := by omega
            have e0 : ((p : Int) + 1).toNat = p + 1 := by omega
            go_upto_region 9 with fail
            go_quiet (first | (go_at_call 24; refine Calls.quiet_of_same (HSG.out _)))
            go_wp2_with fail
            rcases ha with hz | ⟨hz, ht⟩
            · have hz1 : ¬ 0 < z := by omega
              have hz2 : (z == 0) = false := by rw [beq_eq_false_iff_ne]; omega
              go_quiet (fail)
              go_wp2_with fail
              go_roundg (m - (p + 2))
              case measure => omega
              case rel => exact ⟨p + 2, by go_num, by omega, by omega, Nat.le_refl _, (show Hid _ from ⟨HR2.out.os, HR2.out.tape, HR2.out.output, HR2.out.size, HR2.out.block⟩)⟩
            · subst hz
              have ht' : ¬ Y.2 ≤ X.2 := by omega
              go_quiet (fail)
              go_wp2_with fail
              go_roundg (m - (p + 2))
              case measure => omega
              case rel => exact ⟨p + 2, by go_num, by omega, by omega, Nat.le_refl _, (show Hid _ from ⟨HR2.out.os, HR2.out.tape, HR2.out.output, HR2.out.size, HR2.out.block⟩)⟩
          · have hltz2 : ¬ (j : Int) < (m : Int) := by omega
            go_wp2_with fail
            go_roundg (3 - (i + 1))
            case measure => omega
            case rel => exact ⟨i + 1, by go_num, by omega, Nat.le_refl _, (show Hid _ from HR.out.trans (HR2.out.mono HR.out.size))⟩
      · have hltz : ¬ (i : Int) < 3 := by omega
        go_wp2_with fail
        go_ret
        exact ⟨rfl, HB.out.trans (HR.out.mono HB.out.size)⟩
end Go.Proofs.Ytlhddfmijdonlaa
