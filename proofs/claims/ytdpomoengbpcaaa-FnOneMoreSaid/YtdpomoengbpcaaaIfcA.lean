/- Walks: sort.swapRange, sort.rotate, sort.insertionSort over an interface value whose methods are told by contracts: they do what swRange, rot and insSort do. -/
import Derived.Test.YtdpomoengbpcaaaWords
import Derived.Test.YtdpomoengbpcaaaLaws4
import Derived.BigRegion
import Derived.BigQuiet
import Derived.Deep.QuietTactic
import Derived.Deep.LoopGhost
import Derived.Deep.DeepCutAuto
import Derived.Outline
namespace Go.Proofs.Ytdpomoengbpcaaa
open Go.RowKit Go.Sort Go.Lib

/-- What is asked of the value with methods (a pointer to impl.list at block lb): of Less and Swap, in every world of R, as long as no more than K calls have been written down. -/
structure IfcOk (lt : It → It → Bool) (lb n K : Nat) (R : St It → World → Prop) : Prop where
  size : ∀ s W, R s W → s.d.size = n
  less : ∀ s W i j, R s W → i < n → j < n → s.log.length + 1 ≤ K → Calls Try.prog 77 #[.pointer (some ⟨lb, 0, none⟩), .int .i64 (i : Nat), .int .i64 (j : Nat)] W fun e w' => e = .returned (.bool (lt s.d[i]! s.d[j]!)) ∧ R (s.ask i j) w'
  swap : ∀ s W i j, R s W → i < n → j < n → s.log.length + 1 ≤ K → Calls Try.prog 78 #[.pointer (some ⟨lb, 0, none⟩), .int .i64 (i : Nat), .int .i64 (j : Nat)] W fun e w' => e = .returned (.tuple #[]) ∧ R (s.swap i j) w'

/-- .. with the indices as the walk spells them. -/
theorem IfcOk.lessZ {lt : It → It → Bool} {lb n K : Nat} {R : St It → World → Prop} (h : IfcOk lt lb n K R) {s : St It} {W : World} (hR : R s W) (i j : Nat) (hi : i < n) (hj : j < n) (x y : Int) (hx : x = i) (hy : y = j) (hk : s.log.length + 1 ≤ K) :
    Calls Try.prog 77 #[.pointer (some ⟨lb, 0, none⟩), .int .i64 x, .int .i64 y] W fun e w' => e = .returned (.bool (lt s.d[i]! s.d[j]!)) ∧ R (s.ask i j) w' := by
  subst hx hy; exact h.less s W i j hR hi hj hk
theorem IfcOk.swapZ {lt : It → It → Bool} {lb n K : Nat} {R : St It → World → Prop} (h : IfcOk lt lb n K R) {s : St It} {W : World} (hR : R s W) (i j : Nat) (hi : i < n) (hj : j < n) (x y : Int) (hx : x = i) (hy : y = j) (hk : s.log.length + 1 ≤ K) :
    Calls Try.prog 78 #[.pointer (some ⟨lb, 0, none⟩), .int .i64 x, .int .i64 y] W fun e w' => e = .returned (.tuple #[]) ∧ R (s.swap i j) w' := by
  subst hx hy; exact h.swap s W i j hR hi hj hk

theorem method_Less (lb : Nat) (w : World) : Sem.run Try.prog (method 204 51 (.pointer (some ⟨lb, 0, none⟩)) "Less") w = .ok (77, .pointer (some ⟨lb, 0, none⟩)) w := by kernel_rfl
theorem method_Swap (lb : Nat) (w : World) : Sem.run Try.prog (method 204 51 (.pointer (some ⟨lb, 0, none⟩)) "Swap") w = .ok (78, .pointer (some ⟨lb, 0, none⟩)) w := by kernel_rfl
theorem method_Len (lb : Nat) (w : World) : Sem.run Try.prog (method 204 51 (.pointer (some ⟨lb, 0, none⟩)) "Len") w = .ok (76, .pointer (some ⟨lb, 0, none⟩)) w := by kernel_rfl

set_option maxHeartbeats 400000 in
theorem swapRange_ifc (lt : It → It → Bool) (lb n K : Nat) (R : St It → World → Prop) (hI : IfcOk lt lb n K R) (a b k : Nat) (s : St It) (W : World) (hR : R s W) (ha : a + k ≤ n) (hb : b + k ≤ n) (hn : n ≤ 1000000) (hK : (swRange a b k 0 s).log.length ≤ K) :
    Calls Try.prog 57 #[.iface 51 (.pointer (some ⟨lb, 0, none⟩)), .int .i64 a, .int .i64 b, .int .i64 k] W fun e w' => e = .returned (.tuple #[]) ∧ R (swRange a b k 0 s) w' := by
  have HI := Lib.hid hI
  have HR := Lib.hid hR
  have HKK := Lib.hid hK
  have mS := method_Swap lb
  clear hI hR hK
  go_enter Try.func57, Try.ntmps57
  go_wp2
  go_loopg [8] k (fun g vi wr => ∃ (i : Nat) (t : St It), vi = .int .i64 i ∧ i ≤ k ∧ k - i ≤ g ∧ Hid (R t wr ∧ swRange a b k i t = swRange a b k 0 s))
  case atStart => exact ⟨0, s, rfl, by omega, by omega, HR.out, rfl⟩
  case round =>
    obtain ⟨i, t, rfl, hik, hg, HT⟩ := hrel
    by_cases hlt : i < k
    · have hltz : (i : Int) < (k : Int) := by omega
      go_wp2_with fail
      refine (HI.out.swapZ HT.out.1 (a + i) (b + i) (by omega) (by omega) _ _ (by omega) (by omega) (by have h1 := swRange_len a b k i t hlt; rw [HT.out.2] at h1; have := HKK.out; omega)).mono ?_
      rintro e w' ⟨rfl, hR'⟩
      have HR' := Lib.hid hR'
      clear hR'
      go_wp2_with fail
      go_roundg (k - (i + 1))
      case measure => omega
      case rel => exact ⟨i + 1, t.swap (a + i) (b + i), by go_num, by omega, Nat.le_refl _, (show Hid _ from ⟨HR'.out, by rw [← HT.out.2, ← swRange_go a b k i t hlt]⟩)⟩
    · have hltz : ¬ (i : Int) < (k : Int) := by omega
      go_wp2
      go_end0
      exact ⟨rfl, by rw [← HT.out.2, swRange_stop a b k i t hlt]; exact HT.out.1⟩

set_option maxHeartbeats 400000 in
theorem rotate_ifc (lt : It → It → Bool) (lb n K : Nat) (R : St It → World → Prop) (hI : IfcOk lt lb n K R) (a m b : Nat) (s : St It) (W : World) (hR : R s W) (ham : a < m) (hmb : m < b) (hb : b ≤ n) (hn : n ≤ 1000000) (hK : (rotate a m b s).log.length ≤ K) :
    Calls Try.prog 54 #[.iface 51 (.pointer (some ⟨lb, 0, none⟩)), .int .i64 a, .int .i64 m, .int .i64 b] W fun e w' => e = .returned (.tuple #[]) ∧ R (rotate a m b s) w' := by
  have HI := Lib.hid (fun x y k t W' h1 h2 h3 h4 => swapRange_ifc lt lb n K R hI x y k t W' h1 h2 h3 hn h4)
  have HR := Lib.hid hR
  have HKK := Lib.hid hK
  clear hI hR hK
  go_enter Try.func54, Try.ntmps54
  go_wp2
  go_loopg [8, 9] (b - a) (fun g vi vj wr => ∃ (i j : Nat) (t : St It), vi = .int .i64 i ∧ vj = .int .i64 j ∧ 0 < i ∧ 0 < j ∧ i ≤ m ∧ m + j ≤ b ∧ i + j ≤ g ∧ Hid (R t wr ∧ rot m i j t = rotate a m b s))
  case atStart => exact ⟨m - a, b - m, s, by congr 1; omega, by congr 1; omega, by omega, by omega, by omega, by omega, by omega, HR.out, rfl⟩
  case round =>
    obtain ⟨i, j, t, rfl, rfl, hi, hj, him, hjb, hg, HT⟩ := hrel
    rcases Nat.lt_trichotomy i j with h | h | h
    · have h1 : ((i : Int) != (j : Int)) = true := by rw [bne_iff_ne]; omega
      have h2 : ¬ (j : Int) < (i : Int) := by omega
      have E := Lib.hid (And.intro (show ((m : Int) - i) = ((m - i : Nat) : Int) by omega) (show ((m : Int) + j - i) = ((m + j - i : Nat) : Int) by omega))
      go_wp2_with fail
      rw [E.out.1, E.out.2]
      refine (HI.out (m - i) (m + j - i) i t wr HT.out.1 (by omega) (by omega) (by have h1 := (rot_run 0 (m + j) m _ i (j - i) (swRange (m - i) (m + j - i) i 0 t) rfl hi (by omega) (by omega) (by omega)).len; rw [← rot_right m i j t hi h, HT.out.2] at h1; exact Nat.le_trans h1 HKK.out)).mono ?_
      rintro e w' ⟨rfl, hR'⟩
      have HR' := Lib.hid hR'
      clear hR'
      go_wp2_with fail
      go_roundg (j)
      case measure => omega
      case rel => exact ⟨i, j - i, swRange (m - i) (m + j - i) i 0 t, rfl, by congr 1; omega, hi, by omega, him, by omega, by omega, (show Hid _ from ⟨HR'.out, by rw [← HT.out.2, rot_right m i j t hi h]⟩)⟩
    · subst h
      have h1 : ((i : Int) != (i : Int)) = false := by simp
      have E := Lib.hid (show ((m : Int) - i) = ((m - i : Nat) : Int) by omega)
      go_wp2_with fail
      rw [E.out]
      refine (HI.out (m - i) m i t wr HT.out.1 (by omega) (by omega) (by rw [← rot_end m i t hi, HT.out.2]; exact HKK.out)).mono ?_
      rintro e w' ⟨rfl, hR'⟩
      have HR' := Lib.hid hR'
      clear hR'
      go_wp2_with fail
      go_end0
      exact ⟨rfl, by rw [← HT.out.2, rot_end m i t hi]; exact HR'.out⟩
    · have h1 : ((i : Int) != (j : Int)) = true := by rw [bne_iff_ne]; omega
      have h2 : (j : Int) < (i : Int) := by omega
      have E := Lib.hid (show ((m : Int) - i) = ((m - i : Nat) : Int) by omega)
      go_wp2_with fail
      rw [E.out]
      refine (HI.out (m - i) m j t wr HT.out.1 (by omega) (by omega) (by have h1 := (rot_run 0 (m + j) m _ (i - j) j (swRange (m - i) m j 0 t) rfl (by omega) hj (by omega) (by omega)).len; rw [← rot_left m i j t hj h, HT.out.2] at h1; exact Nat.le_trans h1 HKK.out)).mono ?_
      rintro e w' ⟨rfl, hR'⟩
      have HR' := Lib.hid hR'
      clear hR'
      go_wp2_with fail
      go_roundg (i)
      case measure => omega
      case rel => exact ⟨i - j, j, swRange (m - i) m j 0 t, by congr 1; omega, rfl, by omega, hj, by omega, hjb, by omega, (show Hid _ from ⟨HR'.out, by rw [← HT.out.2, rot_left m i j t hj h]⟩)⟩

set_option maxHeartbeats 1000000 in
theorem insertionSort_ifc (lt : It → It → Bool) (lb n K : Nat) (R : St It → World → Prop) (hI : IfcOk lt lb n K R) (a b : Nat) (s : St It) (W : World) (hR : R s W) (hab : a ≤ b) (hb : b ≤ n) (hn : n ≤ 1000000) (hK : (insSort lt a b s).log.length ≤ K) :
    Calls Try.prog 39 #[.iface 51 (.pointer (some ⟨lb, 0, none⟩)), .int .i64 a, .int .i64 b] W fun e w' => e = .returned (.tuple #[]) ∧ R (insSort lt a b s) w' := by
  have HI := Lib.hid hI
  have HR := Lib.hid hR
  have mS := method_Swap lb
  have mL := method_Less lb
  have HKK := Lib.hid hK
  clear hI hR hK
  go_enter Try.func39, Try.ntmps39
  go_wp2
  go_loopg [6] (b - a) (fun g vi wr => ∃ (i : Nat) (t : St It), vi = .int .i64 i ∧ a < i ∧ i ≤ b + 1 ∧ b + 1 - i ≤ g + 1 ∧ Hid (R t wr ∧ insOut lt a b i t = insSort lt a b s))
  case atStart => exact ⟨a + 1, s, by go_num, by omega, by omega, by omega, HR.out, rfl⟩
  case round =>
    obtain ⟨i, t, rfl, hai, hib, hg, HT⟩ := hrel
    by_cases hlt : i < b
    · have hltz : (i : Int) < (b : Int) := by omega
      have HKI := Lib.hid (show (insIn lt a i t).log.length ≤ K from by
        have h1 := (insOut_run lt a b _ (i + 1) (insIn lt a i t) rfl).len
        rw [← insOut_go _ _ _ _ _ hlt, HT.out.2] at h1
        exact Nat.le_trans h1 HKK.out)
      go_wp2
      go_loopg [7] i (fun g2 vj wr2 => ∃ (j : Nat) (t2 : St It), vj = .int .i64 j ∧ a ≤ j ∧ j ≤ i ∧ j ≤ g2 ∧ Hid (R t2 wr2 ∧ insIn lt a j t2 = insIn lt a i t))
      case atStart => exact ⟨i, t, rfl, by omega, Nat.le_refl _, Nat.le_refl _, HT.out.1, rfl⟩
      case round =>
        obtain ⟨j, t2, rfl, haj, hji, hg2, HT2⟩ := hrel
        by_cases hja : a < j
        · obtain ⟨jp, rfl⟩ : ∃ jp, j = jp + 1 := ⟨j - 1, by omega⟩
          have hjaz : (a : Int) < ((jp : Int) + 1) := by omega
          have HGO := Lib.hid (fun h => insIn_go lt a jp t2 hja h)
          have HNO := Lib.hid (fun h => insIn_no lt a jp t2 hja h)
          have HL := Lib.hid (HI.out.lessZ HT2.out.1 (jp + 1) jp (by omega) (by omega) ((jp : Int) + 1) (jp : Int) (by omega) rfl (by have h1 := insIn_len_no lt a jp t2 hja; rw [HT2.out.2] at h1; have := HKI.out; omega))
          have HSW := Lib.hid (fun (hl : lt t2.d[jp + 1]! t2.d[jp]! = true) W' (h : R (t2.ask (jp + 1) jp) W') => HI.out.swapZ h (jp + 1) jp (by omega) (by omega) ((jp : Int) + 1) (jp : Int) (by omega) rfl (by have h1 := insIn_len_go lt a jp t2 hja hl; rw [HT2.out.2] at h1; have := HKI.out; simp; omega))
          cases hlv : lt t2.d[jp + 1]! t2.d[jp]! with
          | true =>
            replace HL := Lib.hid HL.out
            rw [hlv] at HL
            replace HGO := Lib.hid (HGO.out hlv)
            replace HSW := Lib.hid (HSW.out hlv)
            clear HNO hlv
            go_wp2_with fail
            refine HL.out.mono ?_
            rintro e w' ⟨rfl, hR'⟩
            have HR' := Lib.hid hR'
            clear hR'
            go_wp2_with fail
            refine (HSW.out _ HR'.out).mono ?_
            rintro e w'' ⟨rfl, hR''⟩
            have HR'' := Lib.hid hR''
            clear hR''
            go_wp2_with fail
            go_roundg jp
            case measure => omega
            case rel => exact ⟨jp, (t2.ask (jp + 1) jp).swap (jp + 1) jp, by first | rfl | go_num | (congr 1; omega), by omega, by omega, Nat.le_refl _, (show Hid _ from ⟨HR''.out, by rw [← HGO.out]; exact HT2.out.2⟩)⟩
          | false =>
            replace HL := Lib.hid HL.out
            rw [hlv] at HL
            replace HNO := Lib.hid (HNO.out hlv)
            clear HGO HSW hlv
            go_wp2_with fail
            refine HL.out.mono ?_
            rintro e w' ⟨rfl, hR'⟩
            have HR' := Lib.hid hR'
            clear hR'
            go_wp2_with fail
            go_roundg (b - (i + 1))
            case measure => omega
            case rel => exact ⟨i + 1, t2.ask (jp + 1) jp, by go_num, by omega, by omega, by omega, (show Hid _ from ⟨HR'.out, by rw [← HT.out.2, insOut_go _ _ _ _ _ hlt, ← HT2.out.2, HNO.out]⟩)⟩
        · have hjaz' : ¬ (a : Int) < (j : Int) := by omega
          go_wp2_with fail
          go_roundg (b - (i + 1))
          case measure => omega
          case rel => exact ⟨i + 1, t2, by go_num, by omega, by omega, by omega, (show Hid _ from ⟨HT2.out.1, by rw [← HT.out.2, insOut_go _ _ _ _ _ hlt, ← HT2.out.2, insIn_stop _ _ _ _ (by omega)]⟩)⟩
    · have hltz : ¬ (i : Int) < (b : Int) := by omega
      go_wp2
      go_end0
      exact ⟨rfl, by rw [← HT.out.2, insOut_stop _ _ _ _ _ hlt]; exact HT.out.1⟩
end Go.Proofs.Ytdpomoengbpcaaa
