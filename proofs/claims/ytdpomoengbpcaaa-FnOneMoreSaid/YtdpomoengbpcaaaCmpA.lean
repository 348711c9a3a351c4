/- Walks: slices.swapRangeCmpFunc, rotateCmpFunc at entries: they do what swRange and rot do. -/
import Derived.Test.YtdpomoengbpcaaaWords
import Derived.BigRegion
import Derived.BigQuiet
import Derived.Deep.QuietTactic
import Derived.Deep.LoopGhost
import Derived.Outline
namespace Go.Proofs.Ytdpomoengbpcaaa
open Go.RowKit Go.Sort Go.Lib

set_option maxHeartbeats 1000000 in
set_option maxRecDepth 100000 in
theorem swapRange_cmp (blk n cap : Nat) (w0 : World) (cv : Value) (a b k : Nat) (s : St It) (W : World) (hR : RowR blk w0 s.d W) (hs : s.d.size = n) (ha : a + k ≤ n) (hb : b + k ≤ n) (hn : n < 4611686018427387904) :
    Calls Try.prog 58 #[.slice (some ⟨blk, 0, none⟩) n cap, .int .i64 a, .int .i64 b, .int .i64 k, cv] W fun e w' =>
      e = .returned (.tuple #[]) ∧ RowR blk w0 (swRange a b k 0 s).d w' := by
  have HR := Lib.hid hR
  have HS := Lib.hid hs
  clear hR hs
  go_enter Try.func58, Try.ntmps58
  go_wp2
  go_loopg [10] k (fun g vi wr => ∃ (i : Nat) (t : St It), vi = .int .i64 i ∧ i ≤ k ∧ k - i ≤ g ∧ Hid (t.d.size = n ∧ RowR blk w0 t.d wr ∧ swRange a b k i t = swRange a b k 0 s))
  case atStart => exact ⟨0, s, rfl, by omega, by omega, HS.out, HR.out, rfl⟩
  case round =>
    obtain ⟨i, t, rfl, hik, hg, HT⟩ := hrel
    by_cases hlt : i < k
    · have hltz : (i : Int) < (k : Int) := by omega
      have hai : a + i < t.d.size := by rw [HT.out.1]; omega
      have hbi : b + i < t.d.size := by rw [HT.out.1]; omega
      obtain ⟨x1, x2, y1, y2⟩ := HT.out.2.1.at hai
      obtain ⟨u1, u2, v1, v2⟩ := HT.out.2.1.at hbi
      obtain ⟨z1, z2, hz1, hz2⟩ := HT.out.2.1.stores (i := a + i) hbi t.d[b + i]!
      have HW := Lib.hid (HT.out.2.1.swapped hai hbi)
      generalize hX : t.d[a + i]! = X at x1 x2 HW
      generalize hY : t.d[b + i]! = Y at u1 u2 hz1 hz2 HW
      clear hX hY hai hbi
      have wa : IntKind.i64.wrap ((a : Int) + i) = (a : Int) + i := by rw [IntKind.wrap_i64]; omega
      have wb : IntKind.i64.wrap ((b : Int) + i) = (b : Int) + i := by rw [IntKind.wrap_i64]; omega
      have pa : (0 : Int) ≤ (a : Int) + i := by omega
      have pb : (0 : Int) ≤ (b : Int) + i := by omega
      have qa : (a : Int) + i < (n : Int) := by omega
      have qb : (b : Int) + i < (n : Int) := by omega
      have na : ((a : Int) + i).toNat = a + i := by omega
      have nb : ((b : Int) + i).toNat = b + i := by omega
      go_wp2_with fail
      go_region
      all_goals go_wp2
      go_roundg (k - (i + 1))
      case measure => omega
      case rel =>
        refine ⟨i + 1, t.swap (a + i) (b + i), by go_num, by omega, Nat.le_refl _, (show Hid _ from ?_)⟩
        exact ⟨by rw [St.swap_d, size_swp]; exact HT.out.1, HW.out.drewN 1, by rw [← HT.out.2.2, ← swRange_go a b k i t hlt]⟩
    · have hltz : ¬ (i : Int) < (k : Int) := by omega
      go_wp2
      go_end0
      exact ⟨rfl, by rw [← HT.out.2.2, swRange_stop a b k i t hlt]; exact HT.out.2.1⟩

set_option maxHeartbeats 1000000 in
set_option maxRecDepth 100000 in
theorem rotate_cmp (blk n cap : Nat) (w0 : World) (cv : Value) (a m b : Nat) (s : St It) (W : World) (hR : RowR blk w0 s.d W) (hs : s.d.size = n) (ham : a < m) (hmb : m < b) (hb : b ≤ n) (hn : n < 4611686018427387904) :
    Calls Try.prog 55 #[.slice (some ⟨blk, 0, none⟩) n cap, .int .i64 a, .int .i64 m, .int .i64 b, cv] W fun e w' =>
      e = .returned (.tuple #[]) ∧ RowR blk w0 (rotate a m b s).d w' := by
  have HR := Lib.hid hR
  have HS := Lib.hid hs
  have sz : ∀ (x y c : Nat) (t : St It), (swRange x y c 0 t).d.size = t.d.size := fun x y c t => (swRange_run 0 (x + y + c) x y c (by omega) (by omega) (by omega) (by omega) _ 0 t rfl).size
  have SZ := Lib.hid sz
  clear hR hs sz
  go_enter Try.func55, Try.ntmps55
  go_wp2
  go_loopg [10, 11] (b - a) (fun g vi vj wr => ∃ (i j : Nat) (t : St It), vi = .int .i64 i ∧ vj = .int .i64 j ∧ 0 < i ∧ 0 < j ∧ i ≤ m ∧ m + j ≤ b ∧ i + j ≤ g ∧ Hid (t.d.size = n ∧ RowR blk w0 t.d wr ∧ rot m i j t = rotate a m b s))
  case atStart => exact ⟨m - a, b - m, s, by congr 1; omega, by congr 1; omega, by omega, by omega, by omega, by omega, by omega, HS.out, HR.out, rfl⟩
  case round =>
    obtain ⟨i, j, t, rfl, rfl, hi, hj, him, hjb, hg, HT⟩ := hrel
    rcases Nat.lt_trichotomy i j with h | h | h
    · have h1 : ((i : Int) != (j : Int)) = true := by rw [bne_iff_ne]; omega
      have h2 : ¬ (j : Int) < (i : Int) := by omega
      have e1 : ((m : Int) - i) = ((m - i : Nat) : Int) := by omega
      have e2 : ((m : Int) + j - i) = ((m + j - i : Nat) : Int) := by omega
      have E := Lib.hid (And.intro e1 e2)
      clear e1 e2
      go_wp2_with fail
      rw [E.out.1, E.out.2]
      refine (swapRange_cmp blk n cap w0 cv (m - i) (m + j - i) i t wr HT.out.2.1 HT.out.1 (by omega) (by omega) hn).mono ?_
      rintro e w' ⟨rfl, hR'⟩
      have HR' := Lib.hid hR'
      clear hR'
      go_wp2_with fail
      go_roundg (j)
      case measure => omega
      case rel =>
        refine ⟨i, j - i, swRange (m - i) (m + j - i) i 0 t, rfl, by congr 1; omega, hi, by omega, him, by omega, by omega, (show Hid _ from ?_)⟩
        exact ⟨by rw [SZ.out]; exact HT.out.1, HR'.out, by rw [← HT.out.2.2, rot_right m i j t hi h]⟩
    · subst h
      have h1 : ((i : Int) != (i : Int)) = false := by simp
      have e1 : ((m : Int) - i) = ((m - i : Nat) : Int) := by omega
      have E := Lib.hid e1
      clear e1
      go_wp2_with fail
      rw [E.out]
      refine (swapRange_cmp blk n cap w0 cv (m - i) m i t wr HT.out.2.1 HT.out.1 (by omega) (by omega) hn).mono ?_
      rintro e w' ⟨rfl, hR'⟩
      have HR' := Lib.hid hR'
      clear hR'
      go_wp2_with fail
      go_end0
      exact ⟨rfl, by rw [← HT.out.2.2, rot_end m i t hi]; exact HR'.out⟩
    · have h1 : ((i : Int) != (j : Int)) = true := by rw [bne_iff_ne]; omega
      have h2 : (j : Int) < (i : Int) := by omega
      have e1 : ((m : Int) - i) = ((m - i : Nat) : Int) := by omega
      have E := Lib.hid e1
      clear e1
      go_wp2_with fail
      rw [E.out]
      refine (swapRange_cmp blk n cap w0 cv (m - i) m j t wr HT.out.2.1 HT.out.1 (by omega) (by omega) hn).mono ?_
      rintro e w' ⟨rfl, hR'⟩
      have HR' := Lib.hid hR'
      clear hR'
      go_wp2_with fail
      go_roundg (i)
      case measure => omega
      case rel =>
        refine ⟨i - j, j, swRange (m - i) m j 0 t, by congr 1; omega, rfl, by omega, hj, by omega, hjb, by omega, (show Hid _ from ?_)⟩
        exact ⟨by rw [SZ.out]; exact HT.out.1, HR'.out, by rw [← HT.out.2.2, rot_left m i j t hj h]⟩
end Go.Proofs.Ytdpomoengbpcaaa
