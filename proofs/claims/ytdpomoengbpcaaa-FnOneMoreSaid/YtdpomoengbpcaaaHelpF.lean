/- Walks: spec.Inside, spec.IsWeak, laws.fits: where they tell true, the table is a weak order of the keys. -/
import Derived.Test.YtdpomoengbpcaaaPlainA
namespace Go.Proofs.Ytdpomoengbpcaaa
open Go.RowKit Go.Sort Go.Lib

/-- The call tells a Bool, and leaves the world alone; where it tells true, P holds. -/
def TellsIf (P : Prop) (w : World) (e : Ending) (w' : World) : Prop := ∃ r : Bool, e = .returned (.bool r) ∧ (r = true → P) ∧ w = w'
theorem tells_no {P : Prop} {w : World} {e : Ending} (he : e = .returned (.bool false)) : TellsIf P w e w := ⟨false, he, fun h => (by cases h), rfl⟩
theorem tells_yes {P : Prop} {w : World} {e : Ending} (he : e = .returned (.bool true)) (h : P) : TellsIf P w e w := ⟨true, he, fun _ => h, rfl⟩
theorem tells_as {P : Prop} {w : World} {e : Ending} (r : Bool) (he : e = .returned (.bool r)) (h : r = true → P) : TellsIf P w e w := ⟨r, he, h, rfl⟩

set_option maxHeartbeats 400000 in
theorem Inside_any (N : Int) (B : Option Addr) (m d : Nat) (ks : List Int) (w : World) (hk : IntsR w B m ks) (hm : m ≤ 1000000) :
    Calls Try.prog 21 #[.int .i64 N, .slice B m d] w (TellsIf (∀ k ∈ ks, 0 ≤ k ∧ k < N) w) := by
  have HK := Lib.hid hk
  clear hk
  go_enter Try.func21, Try.ntmps21
  go_wp2
  go_loopg [9] m (fun g vi wr => ∃ (k : Nat), vi = .int .i64 k ∧ k ≤ m ∧ m - k ≤ g ∧ wr = w ∧ Hid (∀ i, i < k → 0 ≤ ks.getD i 0 ∧ ks.getD i 0 < N))
  case atStart => exact ⟨0, rfl, by omega, by omega, rfl, fun i hi => by omega⟩
  case round =>
    obtain ⟨k, rfl, hkm, hg, rfl, HR⟩ := hrel
    by_cases hlt : k < m
    · have hltz : (k : Int) < (m : Int) := by omega
      obtain ⟨bk, o, rfl, hb, hc⟩ := HK.out.2 (by omega)
      have hcell := hc k hlt
      have HX := Lib.hid (show ∃ x, x = ks.getD k 0 from ⟨_, rfl⟩)
      generalize hx : ks.getD k 0 = x at hcell
      have HXX := Lib.hid hx
      clear hx hc HX
      by_cases x1 : x < 0
      · go_wp2
        go_ret
        exact tells_no rfl
      · by_cases x2 : N ≤ x
        · go_wp2
          go_ret
          exact tells_no rfl
        · have HY := Lib.hid (show 0 ≤ x ∧ x < N from ⟨by omega, by omega⟩)
          go_wp2
          go_roundg (m - (k + 1))
          case measure => omega
          case rel =>
            refine ⟨k + 1, by go_num, by omega, Nat.le_refl _, rfl, (show Hid _ from ?_)⟩
            intro i hi
            by_cases e : i = k
            · rw [e, HXX.out]; exact HY.out
            · exact HR.out i (by omega)
    · have hltz : ¬ (k : Int) < (m : Int) := by omega
      have HE := Lib.hid (show ∀ y ∈ ks, 0 ≤ y ∧ y < N from by
        intro y hy
        obtain ⟨i, hi, rfl⟩ := List.getElem_of_mem hy
        have := HR.out i (by rw [HK.out.1] at hi; omega)
        rwa [List.getD_eq_getElem?_getD, List.getElem?_eq_getElem hi] at this)
      go_wp2
      go_ret
      exact tells_yes rfl HE.out

/-- Of a, b, and all c below k: the test of spec.IsWeak passes. -/
def TripOk (S : Int → Int → Int) (a b : Int) (k : Nat) : Prop := ∀ c : Nat, c < k → ¬ (S a b ≤ 0 ∧ S a b = S b c ∧ S a b ≠ S a c)
def PairOk (S : Int → Int → Int) (n : Nat) (a b : Int) : Prop := S a b = - S b a ∧ TripOk S a b n
def RowOk (S : Int → Int → Int) (n : Nat) (a : Int) (k : Nat) : Prop := ∀ b : Nat, b < k → PairOk S n a b

theorem weak_of_rows (S : Int → Int → Int) (n : Nat) (h : ∀ a : Nat, a < n → RowOk S n a n) (hs : ∀ a b, S a b = -1 ∨ S a b = 0 ∨ S a b = 1) : WeakK S (fun k => 0 ≤ k ∧ k < (n : Int)) where
  anti a b ha hb := by
    obtain ⟨x, rfl⟩ := Int.eq_ofNat_of_zero_le ha.1
    obtain ⟨y, rfl⟩ := Int.eq_ofNat_of_zero_le hb.1
    exact (h x (by omega) y (by omega)).1
  lts a b c ha hb hc h1 h2 := by
    obtain ⟨x, rfl⟩ := Int.eq_ofNat_of_zero_le ha.1
    obtain ⟨y, rfl⟩ := Int.eq_ofNat_of_zero_le hb.1
    obtain ⟨z, rfl⟩ := Int.eq_ofNat_of_zero_le hc.1
    have := (h x (by omega) y (by omega)).2 z (by omega)
    have e1 := hs x y
    have e2 := hs y z
    by_cases e : S x y = S x z
    · omega
    · exact absurd ⟨by omega, by omega, e⟩ this
  eqs a b c ha hb hc h1 h2 := by
    obtain ⟨x, rfl⟩ := Int.eq_ofNat_of_zero_le ha.1
    obtain ⟨y, rfl⟩ := Int.eq_ofNat_of_zero_le hb.1
    obtain ⟨z, rfl⟩ := Int.eq_ofNat_of_zero_le hc.1
    have := (h x (by omega) y (by omega)).2 z (by omega)
    by_cases e : S x y = S x z
    · omega
    · exact absurd ⟨by omega, by omega, e⟩ this
theorem sgn_three (x : Int) : sgn x = -1 ∨ sgn x = 0 ∨ sgn x = 1 := by unfold sgn; split <;> (try split) <;> simp

/-- What spec.IsWeak tells where it tells true. -/
def WeakTold (N : Int) (zs : List Int) : Prop := 0 ≤ N ∧ N ≤ 60 ∧ WeakK (sg N zs) (fun k => 0 ≤ k ∧ k < N)

set_option maxHeartbeats 1000000 in
theorem IsWeak_any (N : Int) (A : Option Addr) (n c : Nat) (zs : List Int) (w : World) (hz : IntsR w A n zs) (hn : n ≤ maxLen) :
    Calls Try.prog 22 #[.int .i64 N, .slice A n c] w (TellsIf (WeakTold N zs) w) := by
  have HC := Lib.hid (fun a b => (Sign_any N A n c zs a b w hz hn))
  have HS := Lib.hid (fun a b => sgn_three (num N zs a b))
  clear hz hn
  by_cases n1 : N < 0
  · go_enter Try.func22, Try.ntmps22
    go_wp2_with fail
    go_ret
    exact tells_no rfl
  · by_cases n2 : 60 < N
    · go_enter Try.func22, Try.ntmps22
      go_wp2_with fail
      go_ret
      exact tells_no rfl
    · obtain ⟨p, rfl⟩ := Int.eq_ofNat_of_zero_le (show 0 ≤ N by omega)
      have hp : p ≤ 60 := by omega
      go_enter Try.func22, Try.ntmps22
      go_wp2_with fail
      go_loopg [5, 6, 7, 8] p (fun g va vb vx vc wr => ∃ (a : Nat), va = .int .i64 a ∧ a ≤ p ∧ p - a ≤ g ∧ wr = w ∧ Hid (∀ a' : Nat, a' < a → RowOk (sg (p : Int) zs) p a' p))
      case atStart => exact ⟨0, rfl, by omega, by omega, rfl, fun i hi => by omega⟩
      case round =>
        obtain ⟨a, rfl, hap, hg, rfl, HA⟩ := hrel
        by_cases ha : a < p
        · have haz : (a : Int) < (p : Int) := by omega
          go_wp2_with fail
          go_loopg [6, 7, 8] p (fun g vb vx vc wr2 => ∃ (b : Nat), vb = .int .i64 b ∧ b ≤ p ∧ p - b ≤ g ∧ wr2 = wr ∧ Hid (RowOk (sg (p : Int) zs) p a b))
          case atStart => exact ⟨0, rfl, by omega, by omega, rfl, fun i hi => by omega⟩
          case round =>
            obtain ⟨b, rfl, hbp, hg2, rfl, HB⟩ := hrel
            by_cases hb : b < p
            · have hbz : (b : Int) < (p : Int) := by omega
              go_wp2_with fail
              refine (HC.out (a : Int) (b : Int)).mono ?_
              rintro e w' ⟨rfl, rfl⟩
              have HX := Lib.hid (show sg (p : Int) zs a b = sgn (num (p : Int) zs a b) from rfl)
              have HX3 := HS.out (a : Int) (b : Int)
              generalize sgn (num (p : Int) zs a b) = x at HX HX3
              have x1 : -1 ≤ x := by omega
              have x2 : x ≤ 1 := by omega
              clear HX3
              go_wp2_with fail
              refine (HC.out (b : Int) (a : Int)).mono ?_
              rintro e w' ⟨rfl, rfl⟩
              have HY := Lib.hid (show sg (p : Int) zs b a = sgn (num (p : Int) zs b a) from rfl)
              have HY3 := HS.out (b : Int) (a : Int)
              generalize sgn (num (p : Int) zs b a) = y at HY HY3
              have y1 : -1 ≤ y := by omega
              have y2 : y ≤ 1 := by omega
              clear HY3
              by_cases xy : x = -y
              · have xyb : (x != -y) = false := by simp [xy]
                have HXY := Lib.hid (show sg (p : Int) zs a b = - sg (p : Int) zs b a from by rw [HX.out, HY.out]; exact xy)
                clear xy
                go_wp2_with fail
                go_loopg [8] p (fun g vc wr3 => ∃ (k : Nat), vc = .int .i64 k ∧ k ≤ p ∧ p - k ≤ g ∧ wr3 = wr ∧ Hid (TripOk (sg (p : Int) zs) a b k))
                case atStart => exact ⟨0, rfl, by omega, by omega, rfl, fun i hi => by omega⟩
                case round =>
                  obtain ⟨k, rfl, hkp, hg3, rfl, HK⟩ := hrel
                  by_cases hk : k < p
                  · have hkz : (k : Int) < (p : Int) := by omega
                    have step : ∀ (h : ¬ (sg (p : Int) zs a b ≤ 0 ∧ sg (p : Int) zs a b = sg (p : Int) zs b k ∧ sg (p : Int) zs a b ≠ sg (p : Int) zs a k)), TripOk (sg (p : Int) zs) a b (k + 1) := fun h c hc => by
                      by_cases e : c = k
                      · rw [e]; exact h
                      · exact HK.out c (by omega)
                    have STEP := Lib.hid step
                    clear step
                    by_cases t1 : x ≤ 0
                    · go_wp2_with fail
                      refine (HC.out (b : Int) (k : Int)).mono ?_
                      rintro e w' ⟨rfl, rfl⟩
                      have HZ := Lib.hid (show sg (p : Int) zs b k = sgn (num (p : Int) zs b k) from rfl)
                      generalize sgn (num (p : Int) zs b k) = z at HZ
                      by_cases t2 : x = z
                      · have t2b : (x == z) = true := by simp [t2]
                        have HT2 := Lib.hid t2
                        clear t2
                        go_wp2_with fail
                        refine (HC.out (a : Int) (k : Int)).mono ?_
                        rintro e w' ⟨rfl, rfl⟩
                        have HV := Lib.hid (show sg (p : Int) zs a k = sgn (num (p : Int) zs a k) from rfl)
                        generalize sgn (num (p : Int) zs a k) = v at HV
                        by_cases t3 : x = v
                        · have t3b : (x != v) = false := by simp [t3]
                          have HF := Lib.hid (STEP.out (fun h => h.2.2 (by rw [HX.out, HV.out]; exact t3)))
                          clear t3
                          go_wp2_with fail
                          go_roundg (p - (k + 1))
                          case measure => omega
                          case rel => exact ⟨k + 1, by go_num, by omega, Nat.le_refl _, rfl, HF.out⟩
                        · have t3b : (x != v) = true := by simp [t3]
                          clear t3
                          go_wp2_with fail
                          go_ret
                          exact tells_no rfl
                      · have t2b : (x == z) = false := by simp [t2]
                        have HF := Lib.hid (STEP.out (fun h => t2 (by rw [← HX.out, ← HZ.out]; exact h.2.1)))
                        clear t2
                        go_wp2_with fail
                        go_roundg (p - (k + 1))
                        case measure => omega
                        case rel => exact ⟨k + 1, by go_num, by omega, Nat.le_refl _, rfl, HF.out⟩
                    · have HF := Lib.hid (STEP.out (fun h => t1 (by rw [← HX.out]; exact h.1)))
                      go_wp2_with fail
                      go_roundg (p - (k + 1))
                      case measure => omega
                      case rel => exact ⟨k + 1, by go_num, by omega, Nat.le_refl _, rfl, HF.out⟩
                  · have hkz : ¬ (k : Int) < (p : Int) := by omega
                    have HE := Lib.hid (show k = p from by omega)
                    have HF := Lib.hid (show RowOk (sg (p : Int) zs) p a (b + 1) from fun c hc => by
                      by_cases e : c = b
                      · rw [e]; exact ⟨HXY.out, by have := HK.out; rw [HE.out] at this; exact this⟩
                      · exact HB.out c (by omega))
                    go_wp2_with fail
                    go_roundg (p - (b + 1))
                    case measure => omega
                    case rel => exact ⟨b + 1, by go_num, by omega, Nat.le_refl _, rfl, HF.out⟩
              · have xyb : (x != -y) = true := by simp [xy]
                clear xy
                go_wp2_with fail
                go_ret
                exact tells_no rfl
            · have hbz : ¬ (b : Int) < (p : Int) := by omega
              have HE := Lib.hid (show b = p from by omega)
              have HF := Lib.hid (show ∀ a' : Nat, a' < a + 1 → RowOk (sg (p : Int) zs) p a' p from fun c hc => by
                by_cases e : c = a
                · rw [e]; have := HB.out; rw [HE.out] at this; exact this
                · exact HA.out c (by omega))
              go_wp2_with fail
              go_roundg (p - (a + 1))
              case measure => omega
              case rel => exact ⟨a + 1, by go_num, by omega, Nat.le_refl _, rfl, HF.out⟩
        · have haz : ¬ (a : Int) < (p : Int) := by omega
          have HE := Lib.hid (show a = p from by omega)
          have HW := Lib.hid (weak_of_rows (sg (p : Int) zs) p (by have := HA.out; rw [HE.out] at this; exact this) (fun a b => sgn_three _))
          go_wp2_with fail
          go_ret
          exact tells_yes rfl (show WeakTold _ _ from ⟨by omega, by omega, HW.out⟩)

/-- What laws.fits tells where it tells true. -/
def Fits (N : Int) (zs ks : List Int) : Prop := ks.length ≤ 3000 ∧ 0 ≤ N ∧ N ≤ 60 ∧ (∀ k ∈ ks, 0 ≤ k ∧ k < N) ∧ WeakK (sg N zs) (fun k => 0 ≤ k ∧ k < N)

set_option maxHeartbeats 400000 in
theorem fits_any (N : Int) (A : Option Addr) (n c : Nat) (zs : List Int) (B : Option Addr) (m d : Nat) (ks : List Int) (w : World) (hz : IntsR w A n zs) (hn : n ≤ maxLen) (hk : IntsR w B m ks) (hm : m ≤ maxLen) :
    Calls Try.prog 10 #[.int .i64 N, .slice A n c, .slice B m d] w (TellsIf (Fits N zs ks) w) := by
  have HL := Lib.hid hk.1
  have HI := Lib.hid (fun (h : m ≤ 3000) => Inside_any N B m d ks w hk (by omega))
  have HW := Lib.hid (IsWeak_any N A n c zs w hz hn)
  unfold maxLen at hm
  clear hz hk hn
  by_cases h1 : m ≤ 3000
  · have h1z : (m : Int) ≤ 3000 := by omega
    go_enter Try.func10, Try.ntmps10
    go_wp2_with fail
    refine (HI.out h1).mono ?_
    rintro e w' ⟨r, rfl, hr, rfl⟩
    have HR := Lib.hid hr
    clear hr
    cases r with
    | true =>
      go_wp2_with fail
      refine HW.out.mono ?_
      rintro e w' ⟨r2, rfl, hr2, rfl⟩
      have HR2 := Lib.hid hr2
      clear hr2
      go_wp2_with fail
      go_ret
      exact tells_as r2 rfl fun h => ⟨by rw [HL.out]; exact h1, (HR2.out h).1, (HR2.out h).2.1, HR.out (by first | rfl | trivial), (HR2.out h).2.2⟩
    | false =>
      go_wp2_with fail
      go_ret
      exact tells_no rfl
  · have h1z : ¬ (m : Int) ≤ 3000 := by omega
    go_enter Try.func10, Try.ntmps10
    go_wp2_with fail
    go_ret
    exact tells_no rfl
end Go.Proofs.Ytdpomoengbpcaaa
