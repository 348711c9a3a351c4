/- Walks: slices.insertionSortCmpFunc at entries: it does what insSort does. -/
import Derived.Test.YtdpomoengbpcaaaCmpA
import Derived.Shelf.SlSortCmp.QuietGrown
namespace Go.Proofs.Ytdpomoengbpcaaa
open Go.RowKit Go.Sort Go.Lib

theorem mixedOrders : Try.prog.follows .mixedOrders = true := by kernel_rfl

/-- What is asked of the comparison that StableFunc hands on (its literal, the table's box in block tb): in whatever world the sort passes through it gives cf; it lays blocks of its own and changes nothing. -/
def CmpGives (tb : Nat) (cf : It → It → Int) (blk : Nat) (w0 : World) : Prop :=
  ∀ W, w0.grownBy W (some blk) → ∀ x y : It, Calls Try.prog 29 #[.agg #[.int .i64 x.1, .int .i64 x.2], .agg #[.int .i64 y.1, .int .i64 y.2], .pointer (some ⟨tb, 0, none⟩)] W fun e w' =>
    e = .returned (.int .i64 (cf x y)) ∧ ∃ q os, w' = Sort.grow (W.drewN q) os
def ltI (cf : It → It → Int) (x y : It) : Bool := decide (cf x y < 0)

/-- The two loads and the call, in each world of the region's class. -/
theorem RowR.asks {blk tb : Nat} {w0 W : World} {d : Array It} {cf : It → It → Int} (h : RowR blk w0 d W) (hC : CmpGives tb cf blk w0) {i j : Nat} (hi : i < d.size) (hj : j < d.size) :
    (∀ n os, (Sort.grow (W.drewN n) os).cell? ⟨blk, i * 2, none⟩ = some (.int .i64 d[i]!.1)) ∧ (∀ n os, (Sort.grow (W.drewN n) os).cell? ⟨blk, i * 2 + 1, none⟩ = some (.int .i64 d[i]!.2)) ∧
    (∀ n os, (Sort.grow (W.drewN n) os).cell? ⟨blk, j * 2, none⟩ = some (.int .i64 d[j]!.1)) ∧ (∀ n os, (Sort.grow (W.drewN n) os).cell? ⟨blk, j * 2 + 1, none⟩ = some (.int .i64 d[j]!.2)) ∧
    (∀ n os, Calls Try.prog 29 #[.agg #[.int .i64 d[i]!.1, .int .i64 d[i]!.2], .agg #[.int .i64 d[j]!.1, .int .i64 d[j]!.2], .pointer (some ⟨tb, 0, none⟩)] (Sort.grow (W.drewN n) os) fun e w' =>
      e = .returned (.int .i64 (cf d[i]! d[j]!)) ∧ ∃ q os', w' = Sort.grow ((Sort.grow (W.drewN n) os).drewN q) os') :=
  ⟨fun n os => ((h.grown n os).at hi).1, fun n os => ((h.grown n os).at hi).2.1, fun n os => ((h.grown n os).at hj).1, fun n os => ((h.grown n os).at hj).2.1, fun n os => hC _ (h.grown n os).only _ _⟩

set_option maxHeartbeats 1000000 in
set_option maxRecDepth 100000 in
theorem insertionSort_cmp (blk tb n cap : Nat) (w0 : World) (cf : It → It → Int) (hC : CmpGives tb cf blk w0) (a b : Nat) (s : St It) (W : World) (hR : RowR blk w0 s.d W) (hs : s.d.size = n) (hab : a ≤ b) (hb : b ≤ n) (hn : n < 4611686018427387904) :
    Calls Try.prog 41 #[.slice (some ⟨blk, 0, none⟩) n cap, .int .i64 a, .int .i64 b, .func (.func 29) #[] #[.pointer (some ⟨tb, 0, none⟩)]] W fun e w' =>
      e = .returned (.tuple #[]) ∧ RowR blk w0 (insSort (ltI cf) a b s).d w' := by
  have HR := Lib.hid hR
  have HS := Lib.hid hs
  have HC := Lib.hid hC
  have mixed := mixedOrders
  clear hR hs hC
  go_enter Try.func41, Try.ntmps41
  go_wp2
  go_loopg [8] (b - a) (fun g vi wr => ∃ (i : Nat) (t : St It), vi = .int .i64 i ∧ a < i ∧ i ≤ b + 1 ∧ b + 1 - i ≤ g + 1 ∧ Hid (t.d.size = n ∧ RowR blk w0 t.d wr ∧ insOut (ltI cf) a b i t = insSort (ltI cf) a b s))
  case atStart => exact ⟨a + 1, s, by go_num, by omega, by omega, by omega, HS.out, HR.out, rfl⟩
  case round =>
    obtain ⟨i, t, rfl, hai, hib, hg, HT⟩ := hrel
    by_cases hlt : i < b
    · have hltz : (i : Int) < (b : Int) := by omega
      go_wp2
      go_loopg [9] i (fun g2 vj wr2 => ∃ (j : Nat) (t2 : St It), vj = .int .i64 j ∧ a ≤ j ∧ j ≤ i ∧ j ≤ g2 ∧ Hid (t2.d.size = n ∧ RowR blk w0 t2.d wr2 ∧ insIn (ltI cf) a j t2 = insIn (ltI cf) a i t))
      case atStart => exact ⟨i, t, rfl, by omega, Nat.le_refl _, Nat.le_refl _, HT.out.1, HT.out.2.1, rfl⟩
      case round =>
        obtain ⟨j, t2, rfl, haj, hji, hg2, HT2⟩ := hrel
        by_cases hja : a < j
        · obtain ⟨jp, rfl⟩ : ∃ jp, j = jp + 1 := ⟨j - 1, by omega⟩
          have hi1 : jp + 1 < t2.d.size := by rw [HT2.out.1]; omega
          have hi2 : jp < t2.d.size := by rw [HT2.out.1]; omega
          obtain ⟨l1, l2, l3, l4, hcg⟩ := HT2.out.2.1.asks HC.out hi1 hi2
          have hltI : ltI cf t2.d[jp + 1]! t2.d[jp]! = decide (cf t2.d[jp + 1]! t2.d[jp]! < 0) := rfl
          have HLT := Lib.hid hltI
          have hjaz : (a : Int) < ((jp : Int) + 1) := by omega
          have hwp : IntKind.i64.wrap (jp : Int) = (jp : Int) := by rw [IntKind.wrap_i64]; omega
          have jz : (jp : Int) + 1 < (n : Int) := by omega
          have jz1 : (jp : Int) < (n : Int) := by omega
          have p0 : (0 : Int) ≤ (jp : Int) + 1 := by omega
          have e0 : ((jp : Int) + 1).toNat = jp + 1 := by omega
          clear hltI
          by_cases hlv : cf t2.d[jp + 1]! t2.d[jp]! < 0
          · have hstep := insIn_go (ltI cf) a jp t2 hja (by rw [HLT.out]; exact decide_eq_true hlv)
            have HST := Lib.hid hstep
            clear hstep
            have HSW := Lib.hid (fun (W' : World) (h : RowR blk w0 t2.d W') => And.intro (h.at hi1) (And.intro (h.at hi2) (And.intro (h.stores (i := jp + 1) hi2 t2.d[jp]!) (h.swapped hi1 hi2))))
            generalize t2.d[jp + 1]! = X at l1 l2 hcg hlv HSW
            generalize t2.d[jp]! = Y at l3 l4 hcg hlv HSW
            clear hi1 hi2
            go_wp2_with fail
            go_quiet_grown (first | (go_at_call 29; refine Calls.grown_of (hcg _ _)))
            go_wp2_with fail
            have hRq := HT2.out.2.1.grown nq osq
            clear l1 l2 l3 l4 hcg
            generalize Sort.grow (wr.drewN nq) osq = wq at hRq ⊢
            obtain ⟨⟨x1, x2, y1, y2⟩, ⟨u1, u2, v1, v2⟩, ⟨z1, z2, hz1, hz2⟩, hsw⟩ := HSW.out wq hRq
            have HW := Lib.hid hsw
            clear hsw hRq
            go_region
            all_goals go_wp2
            go_roundg jp
            case measure => omega
            case rel =>
              refine ⟨jp, (t2.ask (jp + 1) jp).swap (jp + 1) jp, by first | rfl | go_num | (congr 1; omega), by omega, by omega, Nat.le_refl _, (show Hid _ from ?_)⟩
              exact ⟨by rw [St.swap_d, size_swp]; exact HT2.out.1, HW.out.drewN 1, by rw [← HST.out]; exact HT2.out.2.2⟩
          · have hstep := insIn_no (ltI cf) a jp t2 hja (by rw [HLT.out]; exact decide_eq_false hlv)
            have HST := Lib.hid hstep
            clear hstep
            generalize t2.d[jp + 1]! = X at l1 l2 hcg hlv
            generalize t2.d[jp]! = Y at l3 l4 hcg hlv
            clear hi1 hi2
            go_wp2_with fail
            go_quiet_grown (first | (go_at_call 29; refine Calls.grown_of (hcg _ _)))
            go_wp2
            go_roundg (b - (i + 1))
            case measure => omega
            case rel =>
              refine ⟨i + 1, t2.ask (jp + 1) jp, by go_num, by omega, by omega, by omega, (show Hid _ from ?_)⟩
              exact ⟨HT2.out.1, HT2.out.2.1.grown nq osq, by rw [← HT.out.2.2, insOut_go _ _ _ _ _ hlt, ← HT2.out.2.2, HST.out]⟩
        · have hjaz : decide ((j : Int) > (a : Int)) = false := decide_eq_false (by omega)
          have hjaz' : ¬ (a : Int) < (j : Int) := by omega
          go_wp2_with fail
          go_quiet (fail)
          go_wp2
          go_roundg (b - (i + 1))
          case measure => omega
          case rel =>
            refine ⟨i + 1, t2, by go_num, by omega, by omega, by omega, (show Hid _ from ?_)⟩
            exact ⟨HT2.out.1, HT2.out.2.1.drewN _, by rw [← HT.out.2.2, insOut_go _ _ _ _ _ hlt, ← HT2.out.2.2, insIn_stop _ _ _ _ (by omega)]⟩
    · have hltz : ¬ (i : Int) < (b : Int) := by omega
      go_wp2
      go_end0
      exact ⟨rfl, by rw [← HT.out.2.2, insOut_stop _ _ _ _ _ hlt]; exact HT.out.2.1⟩
end Go.Proofs.Ytdpomoengbpcaaa
