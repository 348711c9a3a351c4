/- Walks: laws.FnEqualKept returns true. -/
import Derived.Test.YtlhddfmijdonlaaRoads
import Derived.Test.YtlhddfmijdonlaaRdB
namespace Go.Proofs.Ytlhddfmijdonlaa
open Go.RowKit Go.Sort Go.Lib

set_option maxHeartbeats 4000000 in
set_option maxRecDepth 100000 in
theorem FnEqualKept_said (w : World) (N : Int) (_wN : (Lit.int .i64 N).wf = true) {B : Option Addr} {m d : Nat} {ks : List Int} (hk : IntsR w B m ks) (_hmd : m ≤ d) (_hd : d ≤ maxLen) :
    Calls Try.prog 9 #[.int .i64 N, .slice B m d] w fun e w' => e = .returned (.bool true) ∧ Below w.heap.size w w' := by
  by_cases h1 : 3000 < m
  · have h1z : (3000 : Int) < (m : Int) := by omega
    go_enter Try.func9, Try.ntmps9
    go_wp2_with fail
    go_ret
    exact ⟨rfl, Below.refl _ _⟩
  · have h1z : ¬ (3000 : Int) < (m : Int) := by omega
    by_cases h2 : N < 0
    · go_enter Try.func9, Try.ntmps9
      go_wp2_with fail
      go_ret
      exact ⟨rfl, Below.refl _ _⟩
    · by_cases h3 : 300 < N
      · go_enter Try.func9, Try.ntmps9
        go_wp2_with fail
        go_ret
        exact ⟨rfl, Below.refl _ _⟩
      · obtain ⟨a, rfl⟩ : ∃ a : Nat, N = a := ⟨N.toNat, by omega⟩
        have ha : a ≤ 300 := by omega
        have haa : a * a ≤ 300 * 300 := Nat.mul_le_mul ha ha
        have E := Lib.hid (show (a : Int) * (a : Int) = ((a * a : Nat) : Int) from (Int.natCast_mul a a).symm)
        have hm1 : (0 : Int) ≤ (a : Int) * a := by rw [E.out]; omega
        have hm2 : (a : Int) * a ≤ 90000 := by rw [E.out]; omega
        have HK := Lib.hid hk
        have hm3 : m ≤ 3000 := by omega
        clear hk h1
        go_enter Try.func9, Try.ntmps9
        go_wp2_with fail
        refine (entries_any B m d ks w HK.out (by omega)).mono ?_
        rintro e w3 ⟨b3, c3, rfl, hown3, hb3⟩
        have H3 := Lib.hid (And.intro (show ItemsR w3 b3 0 m (ents ks) from ⟨by rw [ents_length]; exact HK.out.1, hown3.items.2.1, by have := hown3.items.2.2; rw [ents_length, HK.out.1] at this; exact this⟩) hb3)
        clear hown3 hb3
        generalize ents ks = S at H3
        go_wp2_with (at_make; refine wpList_makeZ rfl (.tmp 26) (.tmp 26) rfl w3.heap.size (a * a) (by exact congrArg (Value.int .i64) E.out) (by exact congrArg (Value.int .i64) E.out) (by omega) (Nat.le_refl _) ?_; intro w4 hown4 hgrow4)
        have hB4 : Below w3.heap.size w3 w4 := (Below.refl _ _).grown hgrow4.out (Nat.le_refl _) (fun k hk => by cases hk)
        have hz4 : IntsR w4 (some ⟨w3.heap.size, 0, none⟩) (a * a) (List.replicate (a * a) 0) := by have := hown4.out.2.ints; rw [List.length_replicate] at this; exact this
        have H4 := Lib.hid (And.intro (H3.out.1.below hB4) (And.intro (H3.out.2.trans (hB4.mono H3.out.2.size)) hz4))
        clear hB4 hz4 hown4 hgrow4 H3
        refine (roads_any (a : Int) _ (a * a) (a * a) (List.replicate (a * a) 0) b3 0 m c3 S w4 H4.out.2.2 (by unfold maxLen; omega) H4.out.1 (by omega)).mono ?_
        rintro e w5 ⟨r0, q0, r1, q1, r2, q2, rfl, hrd, hb5⟩
        rw [sorted_zero] at hrd
        have H5 := Lib.hid (And.intro hrd (And.intro (H4.out.1.below hb5) (H4.out.2.1.trans (hb5.mono H4.out.2.1.size))))
        clear hrd hb5 H4
        go_wp2_with fail
        go_loopg [31] 3 (fun g vi wr => ∃ (i : Nat), vi = .int .i64 i ∧ i ≤ 3 ∧ 3 - i ≤ g ∧ Hid (Below w5.heap.size w5 wr))
        case atStart => exact ⟨0, rfl, by omega, by omega, Below.refl _ _⟩
        case round =>
          obtain ⟨i, rfl, hi3, hg, HR⟩ := hrel
          by_cases hlt : i < 3
          · have hltz : (i : Int) < 3 := by omega
            obtain ⟨b, cc, hp3, hpr⟩ := pick3_slice r0 q0 r1 q1 r2 q2 m i
            have HIT := Lib.hid (hpr wr S (H5.out.1.below HR.out))
            have HX := Lib.hid (H5.out.2.1.below HR.out)
            clear hpr
            go_wp2_with (refine wpList_index3 rfl (.tmp 30) (.tmp 31) rfl _ _ _ rfl i hlt rfl ?_; rw [hp3])
            refine (same_eq b 0 m cc b3 0 c3 S _ HIT.out HX.out (by omega)).mono ?_
            rintro e w6 ⟨rfl, qq, rfl⟩
            go_wp2_with fail
            go_roundg (3 - (i + 1))
            case measure => omega
            case rel => exact ⟨i + 1, by go_num, by omega, Nat.le_refl _, (show Hid _ from ⟨HR.out.os, HR.out.tape, HR.out.output, HR.out.size, HR.out.block⟩)⟩
          · have hltz : ¬ (i : Int) < 3 := by omega
            have HX := Lib.hid (And.intro (H5.out.2.1.below HR.out) (H5.out.2.2.trans (HR.out.mono H5.out.2.2.size)))
            clear H5 HR hg
            go_wp2_with fail
            refine (roads_any 0 none 0 0 (List.replicate 0 0) b3 0 m c3 S _ ⟨rfl, fun h => absurd h (by omega)⟩ (by unfold maxLen; omega) HX.out.1 (by omega)).mono ?_
            rintro e w7 ⟨p0, d0, p1, d1, p2, d2, rfl, hrd, hb7⟩
            rw [sorted_zero] at hrd
            have H7 := Lib.hid (And.intro hrd (And.intro (HX.out.1.below hb7) (HX.out.2.trans (hb7.mono HX.out.2.size))))
            clear hrd hb7 HX
            go_wp2_with fail
            go_loopg [42] 3 (fun g vi wr => ∃ (i : Nat), vi = .int .i64 i ∧ i ≤ 3 ∧ 3 - i ≤ g ∧ Hid (Below w7.heap.size w7 wr))
            case atStart => exact ⟨0, rfl, by omega, by omega, Below.refl _ _⟩
            case round =>
              obtain ⟨j, rfl, hj3, hg, HR⟩ := hrel
              by_cases hlt2 : j < 3
              · have hltz2 : (j : Int) < 3 := by omega
                obtain ⟨b, cc, hp3, hpr⟩ := pick3_slice p0 d0 p1 d1 p2 d2 m j
                have HIT := Lib.hid (hpr _ S (H7.out.1.below HR.out))
                have HY := Lib.hid (H7.out.2.1.below HR.out)
                clear hpr
                go_wp2_with (refine wpList_index3 rfl (.tmp 41) (.tmp 42) rfl _ _ _ rfl j hlt2 rfl ?_; rw [hp3])
                refine (same_eq b 0 m cc b3 0 c3 S _ HIT.out HY.out (by omega)).mono ?_
                rintro e w8 ⟨rfl, qq, rfl⟩
                go_wp2_with fail
                go_roundg (3 - (j + 1))
                case measure => omega
                case rel => exact ⟨j + 1, by go_num, by omega, Nat.le_refl _, (show Hid _ from ⟨HR.out.os, HR.out.tape, HR.out.output, HR.out.size, HR.out.block⟩)⟩
              · have hltz2 : ¬ (j : Int) < 3 := by omega
                go_wp2_with fail
                go_ret
                exact ⟨rfl, H7.out.2.2.trans (HR.out.mono H7.out.2.2.size)⟩
end Go.Proofs.Ytlhddfmijdonlaa
