/- Walks: sort.symMerge_func over two function values that are told by contracts: it does what symMerge does. -/
import Derived.Test.YtdpomoengbpcaaaFncA
namespace Go.Proofs.Ytdpomoengbpcaaa
open Go.RowKit Go.Sort Go.Lib

set_option maxHeartbeats 1000000 in
set_option maxRecDepth 1000000 in
theorem symMerge_fnc_first (lt : It → It → Bool) (tb ob sf : Nat) (sb : Array Value) (blk n : Nat) (w0 : World) (hI : FncOk lt tb ob sf sb blk n w0) (a m b : Nat) (s : St It) (W : World) (hR : RowS blk n w0 s W) (ham : m - a = 1) (hmb : m < b) (hb : b ≤ n) (hn : n ≤ 1000000) :
    Calls Try.prog 53 #[.agg #[.func (.func 32) #[] #[.pointer (some ⟨tb, 0, none⟩), .pointer (some ⟨ob, 0, none⟩)], .func (.func sf) #[] sb], .int .i64 a, .int .i64 m, .int .i64 b] W fun e w' => e = .returned (.tuple #[]) ∧ RowS blk n w0 (symMerge lt a m b s) w' := by
  obtain ⟨w1, hi, ho, hr, hbk⟩ := hI.enter hR
  have HI := Lib.hid hi
  have HR := Lib.hid hr
  have HBK := Lib.hid hbk
  have HM := Lib.hid (symMerge_first lt a m b s ham)
  have h1 : ((m : Int) - a == 1) = true := by rw [beq_iff_eq]; omega
  have ha1 : a < m := by omega
  have ha2 : m ≤ a + 1 := by omega
  clear hI hR hi ho hr hbk ham
  go_enter Try.func53, Try.ntmps53
  go_wp2
  go_loopg [8, 9, 10] (b - m) (fun g vi vj vh wr => ∃ (i j : Nat) (t : St It), vi = .int .i64 i ∧ vj = .int .i64 j ∧ m ≤ i ∧ i ≤ j ∧ j ≤ b ∧ j - i ≤ g ∧ Hid (RowS blk n w1 t wr ∧ bs lt (fun h => (h, a)) true i j t = bs lt (fun h => (h, a)) true m b s))
  case atStart => exact ⟨m, b, s, rfl, rfl, Nat.le_refl _, by omega, Nat.le_refl _, Nat.le_refl _, HR.out, rfl⟩
  case round =>
    obtain ⟨i, j, t, rfl, rfl, hmi, hij, hjb, hg, HT⟩ := hrel
    obtain ⟨x0, x1⟩ := HI.out.box HT.out.1
    by_cases hlt : i < j
    · have hltz : (i : Int) < (j : Int) := by omega
      have HY := Lib.hid (fun h => bs_yes lt (fun h => (h, a)) true i j t hlt h)
      have HN := Lib.hid (fun h => bs_no lt (fun h => (h, a)) true i j t hlt h)
      have HL := Lib.hid (HI.out.lessZ HT.out.1 ((i + j) / 2) a (by omega) (by omega) (((i : Int) + j) / 2) (a : Int) (by omega) rfl)
      cases hlv : lt t.d[(i + j) / 2]! t.d[a]! with
      | true =>
        rw [hlv] at HL
        replace HY := Lib.hid (HY.out hlv)
        clear HN hlv
        go_wp2_with fail
        refine HL.out.mono ?_
        rintro e w' ⟨rfl, hR'⟩
        have HR' := Lib.hid hR'
        clear hR' HL
        go_wp2_with fail
        go_roundg (j - ((i + j) / 2 + 1))
        case measure => omega
        case rel => exact ⟨(i + j) / 2 + 1, j, t.ask ((i + j) / 2) a, by congr 1, rfl, by omega, by omega, hjb, Nat.le_refl _, (show Hid _ from ⟨HR'.out, by rw [← HT.out.2]; exact HY.out.symm⟩)⟩
      | false =>
        rw [hlv] at HL
        replace HN := Lib.hid (HN.out hlv)
        clear HY hlv
        go_wp2_with fail
        refine HL.out.mono ?_
        rintro e w' ⟨rfl, hR'⟩
        have HR' := Lib.hid hR'
        clear hR' HL
        go_wp2_with fail
        go_roundg ((i + j) / 2 - i)
        case measure => omega
        case rel => exact ⟨i, (i + j) / 2, t.ask ((i + j) / 2) a, rfl, by congr 1, hmi, by omega, by omega, Nat.le_refl _, (show Hid _ from ⟨HR'.out, by rw [← HT.out.2]; exact HN.out.symm⟩)⟩
    · have hltz : ¬ (i : Int) < (j : Int) := by omega
      have HB := Lib.hid (show bs lt (fun h => (h, a)) true m b s = (i, t) from by rw [← HT.out.2, bs_stop _ _ _ _ _ _ hlt])
      have HT' := Lib.hid HT.out.1
      clear HT hg
      go_wp2
      go_loopg [11] (i - a) (fun g vk wr => ∃ (k : Nat) (u : St It), vk = .int .i64 k ∧ a ≤ k ∧ k ≤ i ∧ i - k ≤ g ∧ Hid (RowS blk n w1 u wr ∧ shUp (i - 1) k u = shUp (i - 1) a t))
      case atStart => exact ⟨a, t, rfl, Nat.le_refl _, by omega, Nat.le_refl _, HT'.out, rfl⟩
      case round =>
        obtain ⟨k, u, rfl, hak, hki, hg, HU⟩ := hrel
        obtain ⟨x0, x1⟩ := HI.out.box HU.out.1
        by_cases hk : k < i - 1
        · have hkz : (k : Int) < (i : Int) - 1 := by omega
          obtain ⟨w', hsw, hR'⟩ := HI.out.swapZ HU.out.1 k (k + 1) (by omega) (by omega) (k : Int) ((k : Int) + 1) rfl (by omega)
          have HR' := Lib.hid hR'
          have HSW := Lib.hid hsw
          clear hR' hsw
          go_wp2_with fail
          rw [HSW.out, Oper.upon_value]
          go_wp2_with fail
          go_roundg (i - (k + 1))
          case measure => omega
          case rel => exact ⟨k + 1, u.swap k (k + 1), by go_num, by omega, by omega, Nat.le_refl _, (show Hid _ from ⟨HR'.out, by rw [← HU.out.2, ← shUp_go (i - 1) k u hk]⟩)⟩
        · have hkz : ¬ (k : Int) < (i : Int) - 1 := by omega
          go_wp2
          refine bodyPost_ret (v := .tuple #[]) (by simp [results, Try.results53, go_sem]) rfl ?_
          exact ⟨rfl, HBK.out _ _ (by rw [HM.out, HB.out, ← HU.out.2, shUp_stop _ _ _ hk]; exact HU.out.1)⟩

set_option maxHeartbeats 1000000 in
set_option maxRecDepth 1000000 in
theorem symMerge_fnc_last (lt : It → It → Bool) (tb ob sf : Nat) (sb : Array Value) (blk n : Nat) (w0 : World) (hI : FncOk lt tb ob sf sb blk n w0) (a m b : Nat) (s : St It) (W : World) (hR : RowS blk n w0 s W) (ham : a < m) (ham' : ¬ m - a = 1) (hmb : b - m = 1) (hb : b ≤ n) (hn : n ≤ 1000000) :
    Calls Try.prog 53 #[.agg #[.func (.func 32) #[] #[.pointer (some ⟨tb, 0, none⟩), .pointer (some ⟨ob, 0, none⟩)], .func (.func sf) #[] sb], .int .i64 a, .int .i64 m, .int .i64 b] W fun e w' => e = .returned (.tuple #[]) ∧ RowS blk n w0 (symMerge lt a m b s) w' := by
  obtain ⟨w1, hi, ho, hr, hbk⟩ := hI.enter hR
  have HI := Lib.hid hi
  have HR := Lib.hid hr
  have HBK := Lib.hid hbk
  have HM := Lib.hid (symMerge_last lt a m b s ham' hmb)
  have h1 : ((m : Int) - a == 1) = false := by rw [beq_eq_false_iff_ne]; omega
  have h2 : ((b : Int) - m == 1) = true := by rw [beq_iff_eq]; omega
  have hm1 : m < b := by omega
  clear hI hR hi ho hr hbk ham' hmb
  go_enter Try.func53, Try.ntmps53
  go_wp2
  go_loopg [12, 13, 14] (m - a) (fun g vi vj vh wr => ∃ (i j : Nat) (t : St It), vi = .int .i64 i ∧ vj = .int .i64 j ∧ a ≤ i ∧ i ≤ j ∧ j ≤ m ∧ j - i ≤ g ∧ Hid (RowS blk n w1 t wr ∧ bs lt (fun h => (m, h)) false i j t = bs lt (fun h => (m, h)) false a m s))
  case atStart => exact ⟨a, m, s, rfl, rfl, Nat.le_refl _, by omega, Nat.le_refl _, Nat.le_refl _, HR.out, rfl⟩
  case round =>
    obtain ⟨i, j, t, rfl, rfl, hmi, hij, hjb, hg, HT⟩ := hrel
    obtain ⟨x0, x1⟩ := HI.out.box HT.out.1
    by_cases hlt : i < j
    · have hltz : (i : Int) < (j : Int) := by omega
      have HY := Lib.hid (fun h => bs_yes lt (fun h => (m, h)) false i j t hlt h)
      have HN := Lib.hid (fun h => bs_no lt (fun h => (m, h)) false i j t hlt h)
      have HL := Lib.hid (HI.out.lessZ HT.out.1 m ((i + j) / 2) (by omega) (by omega) (m : Int) (((i : Int) + j) / 2) rfl (by omega))
      cases hlv : lt t.d[m]! t.d[(i + j) / 2]! with
      | true =>
        rw [hlv] at HL
        replace HN := Lib.hid (HN.out hlv)
        clear HY hlv
        go_wp2_with fail
        refine HL.out.mono ?_
        rintro e w' ⟨rfl, hR'⟩
        have HR' := Lib.hid hR'
        clear hR' HL
        go_wp2_with fail
        go_roundg ((i + j) / 2 - i)
        case measure => omega
        case rel => exact ⟨i, (i + j) / 2, t.ask m ((i + j) / 2), rfl, by congr 1, hmi, by omega, by omega, Nat.le_refl _, (show Hid _ from ⟨HR'.out, by rw [← HT.out.2]; exact HN.out.symm⟩)⟩
      | false =>
        rw [hlv] at HL
        replace HY := Lib.hid (HY.out hlv)
        clear HN hlv
        go_wp2_with fail
        refine HL.out.mono ?_
        rintro e w' ⟨rfl, hR'⟩
        have HR' := Lib.hid hR'
        clear hR' HL
        go_wp2_with fail
        go_roundg (j - ((i + j) / 2 + 1))
        case measure => omega
        case rel => exact ⟨(i + j) / 2 + 1, j, t.ask m ((i + j) / 2), by congr 1, rfl, by omega, by omega, hjb, Nat.le_refl _, (show Hid _ from ⟨HR'.out, by rw [← HT.out.2]; exact HY.out.symm⟩)⟩
    · have hltz : ¬ (i : Int) < (j : Int) := by omega
      have HB := Lib.hid (show bs lt (fun h => (m, h)) false a m s = (i, t) from by rw [← HT.out.2, bs_stop _ _ _ _ _ _ hlt])
      have HT' := Lib.hid HT.out.1
      clear HT hg
      go_wp2
      go_loopg [15] (m) (fun g vk wr => ∃ (k : Nat) (u : St It), vk = .int .i64 k ∧ i ≤ k ∧ k ≤ m ∧ k ≤ g ∧ Hid (RowS blk n w1 u wr ∧ shDn i k u = shDn i m t))
      case atStart => exact ⟨m, t, rfl, by omega, Nat.le_refl _, Nat.le_refl _, HT'.out, rfl⟩
      case round =>
        obtain ⟨k, u, rfl, hak, hki, hg, HU⟩ := hrel
        obtain ⟨x0, x1⟩ := HI.out.box HU.out.1
        by_cases hk : i < k
        · obtain ⟨k, rfl⟩ : ∃ kp, k = kp + 1 := ⟨k - 1, by omega⟩
          have hkz : (i : Int) < (k : Int) + 1 := by omega
          obtain ⟨w', hsw, hR'⟩ := HI.out.swapZ HU.out.1 (k + 1) k (by omega) (by omega) ((k : Int) + 1) (k : Int) (by omega) rfl
          have HR' := Lib.hid hR'
          have HSW := Lib.hid hsw
          clear hR' hsw
          go_wp2_with fail
          rw [HSW.out, Oper.upon_value]
          go_wp2_with fail
          go_roundg k
          case measure => omega
          case rel => exact ⟨k, u.swap (k + 1) k, by first | rfl | go_num | (congr 1; omega), by omega, by omega, Nat.le_refl _, (show Hid _ from ⟨HR'.out, by rw [← HU.out.2, ← shDn_go i k u hk]⟩)⟩
        · have hkz : ¬ (i : Int) < (k : Int) := by omega
          go_wp2
          refine bodyPost_ret (v := .tuple #[]) (by simp [results, Try.results53, go_sem]) rfl ?_
          exact ⟨rfl, HBK.out _ _ (by rw [HM.out, HB.out, ← HU.out.2, shDn_stop _ _ _ (by omega)]; exact HU.out.1)⟩
end Go.Proofs.Ytdpomoengbpcaaa
