/- Walks: slices.symMergeCmpFunc at entries, where one side has one entry: it does what symMerge does. -/
import Derived.Test.YtdpomoengbpcaaaCmpB
namespace Go.Proofs.Ytdpomoengbpcaaa
open Go.RowKit Go.Sort Go.Lib

set_option maxHeartbeats 1000000 in
set_option maxRecDepth 1000000 in
theorem symMerge_cmp_first (blk tb n cap : Nat) (w0 : World) (cf : It → It → Int) (hC : CmpGives tb cf blk w0) (a m b : Nat) (s : St It) (W : World) (hR : RowR blk w0 s.d W) (hs : s.d.size = n) (ham : m - a = 1) (hmb : m < b) (hb : b ≤ n) (hn : n < 4611686018427387904) :
    Calls Try.prog 42 #[.slice (some ⟨blk, 0, none⟩) n cap, .int .i64 a, .int .i64 m, .int .i64 b, .func (.func 29) #[] #[.pointer (some ⟨tb, 0, none⟩)]] W fun e w' =>
      e = .returned (.tuple #[]) ∧ RowR blk w0 (symMerge (ltI cf) a m b s).d w' := by
  have HR := Lib.hid hR
  have HS := Lib.hid hs
  have HC := Lib.hid hC
  have HM := Lib.hid (symMerge_first (ltI cf) a m b s ham)
  have h1 : ((m : Int) - a == 1) = true := by rw [beq_iff_eq]; omega
  have ha1 : a < m := by omega
  have ha2 : m ≤ a + 1 := by omega
  have mixed := mixedOrders
  clear hR hs hC ham
  go_enter Try.func42, Try.ntmps42
  go_wp2
  go_loopg [10, 11, 12] (b - m) (fun g vi vj vh wr => ∃ (i j : Nat) (t : St It), vi = .int .i64 i ∧ vj = .int .i64 j ∧ m ≤ i ∧ i ≤ j ∧ j ≤ b ∧ j - i ≤ g ∧ Hid (t.d.size = n ∧ RowR blk w0 t.d wr ∧ bs (ltI cf) (fun h => (h, a)) true i j t = bs (ltI cf) (fun h => (h, a)) true m b s))
  case atStart => exact ⟨m, b, s, rfl, rfl, Nat.le_refl _, by omega, Nat.le_refl _, Nat.le_refl _, HS.out, HR.out, rfl⟩
  case round =>
    obtain ⟨i, j, t, rfl, rfl, hmi, hij, hjb, hg, HT⟩ := hrel
    by_cases hlt : i < j
    · have hltz : (i : Int) < (j : Int) := by omega
      have hi1 : (i + j) / 2 < t.d.size := by rw [HT.out.1]; omega
      have hi2 : a < t.d.size := by rw [HT.out.1]; omega
      obtain ⟨l1, l2, l3, l4, hcg⟩ := HT.out.2.1.asks HC.out hi1 hi2
      have HY := Lib.hid (fun h => bs_yes (ltI cf) (fun h => (h, a)) true i j t hlt h)
      have HN := Lib.hid (fun h => bs_no (ltI cf) (fun h => (h, a)) true i j t hlt h)
      have hltI : ltI cf t.d[(i + j) / 2]! t.d[a]! = decide (cf t.d[(i + j) / 2]! t.d[a]! < 0) := rfl
      have HLT := Lib.hid hltI
      have q1 : ((i : Int) + j) / 2 < (n : Int) := by omega
      have q2 : (0 : Int) ≤ ((i : Int) + j) / 2 := by omega
      have q3 : (((i : Int) + j) / 2).toNat = (i + j) / 2 := by omega
      have q4 : (a : Int) < (n : Int) := by omega
      clear hltI
      by_cases hlv : cf t.d[(i + j) / 2]! t.d[a]! < 0
      · replace HY := Lib.hid (HY.out (by rw [HLT.out]; exact decide_eq_true hlv))
        clear HN HLT
        generalize t.d[(i + j) / 2]! = X at l1 l2 hcg hlv
        generalize t.d[a]! = Y at l3 l4 hcg hlv
        clear hi1 hi2
        go_wp2_with fail
        go_quiet_grown (first | (go_at_call 29; refine Calls.grown_of (hcg _ _)))
        clear l1 l2 l3 l4 hcg
        go_wp2
        go_roundg (j - ((i + j) / 2 + 1))
        case measure => omega
        case rel =>
          refine ⟨(i + j) / 2 + 1, j, t.ask ((i + j) / 2) a, by congr 1, rfl, by omega, by omega, hjb, Nat.le_refl _, (show Hid _ from ?_)⟩
          exact ⟨HT.out.1, HT.out.2.1.grown nq osq, by rw [← HT.out.2.2]; exact HY.out.symm⟩
      · replace HN := Lib.hid (HN.out (by rw [HLT.out]; exact decide_eq_false hlv))
        clear HY HLT
        generalize t.d[(i + j) / 2]! = X at l1 l2 hcg hlv
        generalize t.d[a]! = Y at l3 l4 hcg hlv
        clear hi1 hi2
        go_wp2_with fail
        go_quiet_grown (first | (go_at_call 29; refine Calls.grown_of (hcg _ _)))
        clear l1 l2 l3 l4 hcg
        go_wp2
        go_roundg ((i + j) / 2 - i)
        case measure => omega
        case rel =>
          refine ⟨i, (i + j) / 2, t.ask ((i + j) / 2) a, rfl, by congr 1, hmi, by omega, by omega, Nat.le_refl _, (show Hid _ from ?_)⟩
          exact ⟨HT.out.1, HT.out.2.1.grown nq osq, by rw [← HT.out.2.2]; exact HN.out.symm⟩
    · have hltz : ¬ (i : Int) < (j : Int) := by omega
      have HB := Lib.hid (show bs (ltI cf) (fun h => (h, a)) true m b s = (i, t) from by rw [← HT.out.2.2, bs_stop _ _ _ _ _ _ hlt])
      have HT' := Lib.hid (And.intro HT.out.1 HT.out.2.1)
      clear HT hg
      go_wp2
      go_loopg [13] (i - a) (fun g vk wr => ∃ (k : Nat) (u : St It), vk = .int .i64 k ∧ a ≤ k ∧ k ≤ i ∧ i - k ≤ g ∧ Hid (u.d.size = n ∧ RowR blk w0 u.d wr ∧ shUp (i - 1) k u = shUp (i - 1) a t))
      case atStart => exact ⟨a, t, rfl, Nat.le_refl _, by omega, Nat.le_refl _, HT'.out.1, HT'.out.2, rfl⟩
      case round =>
        obtain ⟨k, u, rfl, hak, hki, hg, HU⟩ := hrel
        by_cases hk : k < i - 1
        · have hkz : (k : Int) < (i : Int) - 1 := by omega
          have hai : k < u.d.size := by rw [HU.out.1]; omega
          have hbi : k + 1 < u.d.size := by rw [HU.out.1]; omega
          obtain ⟨x1, x2, y1, y2⟩ := HU.out.2.1.at hai
          obtain ⟨u1, u2, v1, v2⟩ := HU.out.2.1.at hbi
          obtain ⟨z1, z2, hz1, hz2⟩ := HU.out.2.1.stores (i := k) hbi u.d[k + 1]!
          have HW := Lib.hid (HU.out.2.1.swapped hai hbi)
          generalize hX : u.d[k]! = X at x1 x2 HW
          generalize hY : u.d[k + 1]! = Y at u1 u2 hz1 hz2 HW
          clear hX hY hai hbi
          have wb : IntKind.i64.wrap ((k : Int) + 1) = (k : Int) + 1 := by rw [IntKind.wrap_i64]; omega
          have pb : (0 : Int) ≤ (k : Int) + 1 := by omega
          have qa : (k : Int) < (n : Int) := by omega
          have qb : (k : Int) + 1 < (n : Int) := by omega
          have nb : ((k : Int) + 1).toNat = k + 1 := by omega
          go_wp2_with fail
          go_region
          all_goals go_wp2
          go_roundg (i - (k + 1))
          case measure => omega
          case rel =>
            refine ⟨k + 1, u.swap k (k + 1), by go_num, by omega, by omega, Nat.le_refl _, (show Hid _ from ?_)⟩
            exact ⟨by rw [St.swap_d, size_swp]; exact HU.out.1, HW.out.drewN 1, by rw [← HU.out.2.2, ← shUp_go (i - 1) k u hk]⟩
        · have hkz : ¬ (k : Int) < (i : Int) - 1 := by omega
          go_wp2
          refine bodyPost_ret (v := .tuple #[]) (by simp [results, Try.results42, go_sem]) rfl ?_
          exact ⟨rfl, by rw [HM.out, HB.out, ← HU.out.2.2, shUp_stop _ _ _ hk]; exact HU.out.2.1⟩
end Go.Proofs.Ytdpomoengbpcaaa
