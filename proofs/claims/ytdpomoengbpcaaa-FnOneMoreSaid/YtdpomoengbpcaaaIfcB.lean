/- Walks: sort.symMerge over an interface value whose methods are told by contracts: it does what symMerge does. -/
import Derived.Test.YtdpomoengbpcaaaIfcA
namespace Go.Proofs.Ytdpomoengbpcaaa
open Go.RowKit Go.Sort Go.Lib

set_option maxHeartbeats 1000000 in
set_option maxRecDepth 1000000 in
theorem symMerge_ifc_first (lt : It → It → Bool) (lb n K : Nat) (R : St It → World → Prop) (hI : IfcOk lt lb n K R) (a m b : Nat) (s : St It) (W : World) (hR : R s W) (ham : m - a = 1) (hmb : m < b) (hb : b ≤ n) (hn : n ≤ 1000000) (hK : (symMerge lt a m b s).log.length ≤ K) :
    Calls Try.prog 40 #[.iface 51 (.pointer (some ⟨lb, 0, none⟩)), .int .i64 a, .int .i64 m, .int .i64 b] W fun e w' => e = .returned (.tuple #[]) ∧ R (symMerge lt a m b s) w' := by
  have HI := Lib.hid hI
  have HR := Lib.hid hR
  have mS := method_Swap lb
  have mL := method_Less lb
  have HM := Lib.hid (symMerge_first lt a m b s ham)
  have h1 : ((m : Int) - a == 1) = true := by rw [beq_iff_eq]; omega
  have ha1 : a < m := by omega
  have ha2 : m ≤ a + 1 := by omega
  rw [symMerge_first lt a m b s ham] at hK
  have r1 := bs_all lt (fun h => (h, a)) true a b _ m b s rfl (by omega) (fun h h1 h2 => ⟨by simp; omega, by simp; omega, by simp, by simp; omega⟩)
  have HKB := Lib.hid (show (bs lt (fun h => (h, a)) true m b s).2.log.length ≤ K from Nat.le_trans (shUp_run a b _ _ a _ rfl (Nat.le_refl _) (by omega)).len hK)
  have HKK := Lib.hid hK
  clear hI hR ham hK r1
  go_enter Try.func40, Try.ntmps40
  go_wp2
  go_loopg [8, 9, 10] (b - m) (fun g vi vj vh wr => ∃ (i j : Nat) (t : St It), vi = .int .i64 i ∧ vj = .int .i64 j ∧ m ≤ i ∧ i ≤ j ∧ j ≤ b ∧ j - i ≤ g ∧ Hid (R t wr ∧ bs lt (fun h => (h, a)) true i j t = bs lt (fun h => (h, a)) true m b s))
  case atStart => exact ⟨m, b, s, rfl, rfl, Nat.le_refl _, by omega, Nat.le_refl _, Nat.le_refl _, HR.out, rfl⟩
  case round =>
    obtain ⟨i, j, t, rfl, rfl, hmi, hij, hjb, hg, HT⟩ := hrel
    by_cases hlt : i < j
    · have hltz : (i : Int) < (j : Int) := by omega
      have HY := Lib.hid (fun h => bs_yes lt (fun h => (h, a)) true i j t hlt h)
      have HN := Lib.hid (fun h => bs_no lt (fun h => (h, a)) true i j t hlt h)
      have HL := Lib.hid (HI.out.lessZ HT.out.1 ((i + j) / 2) a (by omega) (by omega) (((i : Int) + j) / 2) (a : Int) (by omega) rfl (by have h1 := bs_len lt (fun h => (h, a)) true i j t hlt; rw [HT.out.2] at h1; have := HKB.out; omega))
      cases hlv : lt t.d[(i + j) / 2]! t.d[a]! with
      | true =>
        rw [hlv] at HL
        replace HY := Lib.hid (HY.out hlv)
        clear HN hlv
        go_wp2_with fail
        refine HL.out.mono ?_
        rintro e w' ⟨rfl, hR'⟩
        have HR' := Lib.hid hR'
        clear hR' HL
        go_wp2_with fail
        go_roundg (j - ((i + j) / 2 + 1))
        case measure => omega
        case rel => exact ⟨(i + j) / 2 + 1, j, t.ask ((i + j) / 2) a, by congr 1, rfl, by omega, by omega, hjb, Nat.le_refl _, (show Hid _ from ⟨HR'.out, by rw [← HT.out.2]; exact HY.out.symm⟩)⟩
      | false =>
        rw [hlv] at HL
        replace HN := Lib.hid (HN.out hlv)
        clear HY hlv
        go_wp2_with fail
        refine HL.out.mono ?_
        rintro e w' ⟨rfl, hR'⟩
        have HR' := Lib.hid hR'
        clear hR' HL
        go_wp2_with fail
        go_roundg ((i + j) / 2 - i)
        case measure => omega
        case rel => exact ⟨i, (i + j) / 2, t.ask ((i + j) / 2) a, rfl, by congr 1, hmi, by omega, by omega, Nat.le_refl _, (show Hid _ from ⟨HR'.out, by rw [← HT.out.2]; exact HN.out.symm⟩)⟩
    · have hltz : ¬ (i : Int) < (j : Int) := by omega
      have HB := Lib.hid (show bs lt (fun h => (h, a)) true m b s = (i, t) from by rw [← HT.out.2, bs_stop _ _ _ _ _ _ hlt])
      have HT' := Lib.hid HT.out.1
      have HKS := Lib.hid (show (shUp (i - 1) a t).log.length ≤ K from by have h1 := HKK.out; rw [HB.out] at h1; exact h1)
      clear HT hg
      go_wp2
      go_loopg [11] (i - a) (fun g vk wr => ∃ (k : Nat) (u : St It), vk = .int .i64 k ∧ a ≤ k ∧ k ≤ i ∧ i - k ≤ g ∧ Hid (R u wr ∧ shUp (i - 1) k u = shUp (i - 1) a t))
      case atStart => exact ⟨a, t, rfl, Nat.le_refl _, by omega, Nat.le_refl _, HT'.out, rfl⟩
      case round =>
        obtain ⟨k, u, rfl, hak, hki, hg, HU⟩ := hrel
        by_cases hk : k < i - 1
        · have hkz : (k : Int) < (i : Int) - 1 := by omega
          go_wp2_with fail
          refine (HI.out.swapZ HU.out.1 k (k + 1) (by omega) (by omega) _ _ rfl (by omega) (by have h1 := shUp_len (i - 1) k u hk; rw [HU.out.2] at h1; have := HKS.out; omega)).mono ?_
          rintro e w' ⟨rfl, hR'⟩
          have HR' := Lib.hid hR'
          clear hR'
          go_wp2_with fail
          go_roundg (i - (k + 1))
          case measure => omega
          case rel => exact ⟨k + 1, u.swap k (k + 1), by go_num, by omega, by omega, Nat.le_refl _, (show Hid _ from ⟨HR'.out, by rw [← HU.out.2, ← shUp_go (i - 1) k u hk]⟩)⟩
        · have hkz : ¬ (k : Int) < (i : Int) - 1 := by omega
          go_wp2
          refine bodyPost_ret (v := .tuple #[]) (by simp [results, Try.results40, go_sem]) rfl ?_
          exact ⟨rfl, by rw [HM.out, HB.out, ← HU.out.2, shUp_stop _ _ _ hk]; exact HU.out.1⟩

set_option maxHeartbeats 1000000 in
set_option maxRecDepth 1000000 in
theorem symMerge_ifc_last (lt : It → It → Bool) (lb n K : Nat) (R : St It → World → Prop) (hI : IfcOk lt lb n K R) (a m b : Nat) (s : St It) (W : World) (hR : R s W) (ham : a < m) (ham' : ¬ m - a = 1) (hmb : b - m = 1) (hb : b ≤ n) (hn : n ≤ 1000000) (hK : (symMerge lt a m b s).log.length ≤ K) :
    Calls Try.prog 40 #[.iface 51 (.pointer (some ⟨lb, 0, none⟩)), .int .i64 a, .int .i64 m, .int .i64 b] W fun e w' => e = .returned (.tuple #[]) ∧ R (symMerge lt a m b s) w' := by
  have HI := Lib.hid hI
  have HR := Lib.hid hR
  have mS := method_Swap lb
  have mL := method_Less lb
  have HM := Lib.hid (symMerge_last lt a m b s ham' hmb)
  have h1 : ((m : Int) - a == 1) = false := by rw [beq_eq_false_iff_ne]; omega
  have h2 : ((b : Int) - m == 1) = true := by rw [beq_iff_eq]; omega
  have hm1 : m < b := by omega
  rw [symMerge_last lt a m b s ham' hmb] at hK
  have HKB := Lib.hid (show (bs lt (fun h => (m, h)) false a m s).2.log.length ≤ K from Nat.le_trans (shDn_run 0 b _ (by omega) m _ (by omega)).len hK)
  have HKK := Lib.hid hK
  clear hI hR ham' hmb hK
  go_enter Try.func40, Try.ntmps40
  go_wp2
  go_loopg [12, 13, 14] (m - a) (fun g vi vj vh wr => ∃ (i j : Nat) (t : St It), vi = .int .i64 i ∧ vj = .int .i64 j ∧ a ≤ i ∧ i ≤ j ∧ j ≤ m ∧ j - i ≤ g ∧ Hid (R t wr ∧ bs lt (fun h => (m, h)) false i j t = bs lt (fun h => (m, h)) false a m s))
  case atStart => exact ⟨a, m, s, rfl, rfl, Nat.le_refl _, by omega, Nat.le_refl _, Nat.le_refl _, HR.out, rfl⟩
  case round =>
    obtain ⟨i, j, t, rfl, rfl, hmi, hij, hjb, hg, HT⟩ := hrel
    by_cases hlt : i < j
    · have hltz : (i : Int) < (j : Int) := by omega
      have HY := Lib.hid (fun h => bs_yes lt (fun h => (m, h)) false i j t hlt h)
      have HN := Lib.hid (fun h => bs_no lt (fun h => (m, h)) false i j t hlt h)
      have HL := Lib.hid (HI.out.lessZ HT.out.1 m ((i + j) / 2) (by omega) (by omega) (m : Int) (((i : Int) + j) / 2) rfl (by omega) (by have h1 := bs_len lt (fun h => (m, h)) false i j t hlt; rw [HT.out.2] at h1; have := HKB.out; omega))
      cases hlv : lt t.d[m]! t.d[(i + j) / 2]! with
      | true =>
        rw [hlv] at HL
        replace HN := Lib.hid (HN.out hlv)
        clear HY hlv
        go_wp2_with fail
        refine HL.out.mono ?_
        rintro e w' ⟨rfl, hR'⟩
        have HR' := Lib.hid hR'
        clear hR' HL
        go_wp2_with fail
        go_roundg ((i + j) / 2 - i)
        case measure => omega
        case rel => exact ⟨i, (i + j) / 2, t.ask m ((i + j) / 2), rfl, by congr 1, hmi, by omega, by omega, Nat.le_refl _, (show Hid _ from ⟨HR'.out, by rw [← HT.out.2]; exact HN.out.symm⟩)⟩
      | false =>
        rw [hlv] at HL
        replace HY := Lib.hid (HY.out hlv)
        clear HN hlv
        go_wp2_with fail
        refine HL.out.mono ?_
        rintro e w' ⟨rfl, hR'⟩
        have HR' := Lib.hid hR'
        clear hR' HL
        go_wp2_with fail
        go_roundg (j - ((i + j) / 2 + 1))
        case measure => omega
        case rel => exact ⟨(i + j) / 2 + 1, j, t.ask m ((i + j) / 2), by congr 1, rfl, by omega, by omega, hjb, Nat.le_refl _, (show Hid _ from ⟨HR'.out, by rw [← HT.out.2]; exact HY.out.symm⟩)⟩
    · have hltz : ¬ (i : Int) < (j : Int) := by omega
      have HB := Lib.hid (show bs lt (fun h => (m, h)) false a m s = (i, t) from by rw [← HT.out.2, bs_stop _ _ _ _ _ _ hlt])
      have HT' := Lib.hid HT.out.1
      have HKS := Lib.hid (show (shDn i m t).log.length ≤ K from by have h1 := HKK.out; rw [HB.out] at h1; exact h1)
      clear HT hg
      go_wp2
      go_loopg [15] (m) (fun g vk wr => ∃ (k : Nat) (u : St It), vk = .int .i64 k ∧ i ≤ k ∧ k ≤ m ∧ k ≤ g ∧ Hid (R u wr ∧ shDn i k u = shDn i m t))
      case atStart => exact ⟨m, t, rfl, by omega, Nat.le_refl _, Nat.le_refl _, HT'.out, rfl⟩
      case round =>
        obtain ⟨k, u, rfl, hak, hki, hg, HU⟩ := hrel
        by_cases hk : i < k
        · obtain ⟨k, rfl⟩ : ∃ kp, k = kp + 1 := ⟨k - 1, by omega⟩
          have hkz : (i : Int) < (k : Int) + 1 := by omega
          go_wp2_with fail
          refine (HI.out.swapZ HU.out.1 (k + 1) k (by omega) (by omega) _ _ (by omega) (by omega) (by have h1 := shDn_len i k u hk; rw [HU.out.2] at h1; have := HKS.out; omega)).mono ?_
          rintro e w' ⟨rfl, hR'⟩
          have HR' := Lib.hid hR'
          clear hR'
          go_wp2_with fail
          go_roundg k
          case measure => omega
          case rel => exact ⟨k, u.swap (k + 1) k, by first | rfl | go_num | (congr 1; omega), by omega, by omega, Nat.le_refl _, (show Hid _ from ⟨HR'.out, by rw [← HU.out.2, ← shDn_go i k u hk]⟩)⟩
        · have hkz : ¬ (i : Int) < (k : Int) := by omega
          go_wp2
          refine bodyPost_ret (v := .tuple #[]) (by simp [results, Try.results40, go_sem]) rfl ?_
          exact ⟨rfl, by rw [HM.out, HB.out, ← HU.out.2, shDn_stop _ _ _ (by omega)]; exact HU.out.1⟩
end Go.Proofs.Ytdpomoengbpcaaa
