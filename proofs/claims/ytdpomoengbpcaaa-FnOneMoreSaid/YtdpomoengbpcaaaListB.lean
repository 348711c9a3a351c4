/- Walks: the methods Len, Less and Swap of the list that writes its calls down. -/
import Derived.Test.YtdpomoengbpcaaaList
namespace Go.Proofs.Ytdpomoengbpcaaa
open Go.RowKit Go.Sort Go.Lib

set_option maxHeartbeats 1000000 in
set_option maxRecDepth 100000 in
theorem list_Len (lt : It → It → Bool) (lb ib ic n : Nat) (N : Int) (A : Option Addr) (nz c : Nat) (w0 : World) (s : St It) (W : World) (h : ListR lt lb ib ic n N A nz c w0 [] s W) (hlog : s.log = []) :
    Calls Try.prog 76 #[.pointer (some ⟨lb, 0, none⟩)] W fun e w' => e = .returned (.int .i64 n) ∧ ListR lt lb ib ic n N A nz c w0 [(0, 0, 0, false)] s w' := by
  obtain ⟨CA, cc, g1, g2⟩ := h.c3
  have hl0 : ([] : List Cl).length + s.log.length = 0 := by rw [hlog]; rfl
  rw [hl0] at g1 g2
  have hc2 := h.c2
  have hll := h.ll
  have HOW := Lib.hid (g2.alloc (.cells #[.int .i64 0, .int .i64 0, .int .i64 0, .bool false] 101))
  have HG := Lib.hid (show (W.alloc (.cells #[.int .i64 0, .int .i64 0, .int .i64 0, .bool false] 101)).cell? ⟨W.heap.size, 0, none⟩ = some (.int .i64 0) ∧ (W.alloc (.cells #[.int .i64 0, .int .i64 0, .int .i64 0, .bool false] 101)).cell? ⟨W.heap.size, 1, none⟩ = some (.int .i64 0) ∧ (W.alloc (.cells #[.int .i64 0, .int .i64 0, .int .i64 0, .bool false] 101)).cell? ⟨W.heap.size, 2, none⟩ = some (.int .i64 0) ∧ (W.alloc (.cells #[.int .i64 0, .int .i64 0, .int .i64 0, .bool false] 101)).cell? ⟨W.heap.size, 3, none⟩ = some (.bool false) from by simp)
  have H := Lib.hid (And.intro h (And.intro hlog g2))
  clear h hlog g2 hl0
  have KEY := Lib.hid (fun b1 c1 w1 h1 h2 => H.out.1.noted2 [(0, 0, 0, false)] s (0, 0, 0, false) (CA := CA) (cc := cc) (L := 0) (b' := b1) (c' := c1) (W' := w1) (by rw [H.out.2.1]; rfl) rfl (by rw [H.out.2.1]; rfl) (.cells #[.int .i64 0, .int .i64 0, .int .i64 0, .bool false] 101) g1 H.out.2.2 h1 h2)
  go_enter Try.func76, Try.ntmps76
  go_wp2_with (at_builtin; refine wpList_appC rfl (.tmp 7) (.tmp 9) rfl (lb + 1) cc 0 CA _ rfl HOW.out W.heap.size 0 0 0 false rfl HG.out (by omega) (by simp; omega) ?_; intro b1 c1 w1 hown1 hgrow1; obtain ⟨hc2', hc3, hf3, HRES⟩ := KEY.out b1 c1 w1 hown1 hgrow1)
  go_ret
  exact ⟨rfl, HRES.out⟩

set_option maxHeartbeats 1000000 in
set_option maxRecDepth 100000 in
theorem list_Less (lb ib ic n : Nat) (N : Int) (A : Option Addr) (nz c : Nat) (zs : List Int) (w0 : World) (pre : List Cl) (s : St It) (W : World) (h : ListR (ltT N zs) lb ib ic n N A nz c w0 pre s W) (hz : IntsR w0 A nz zs) (hnz : nz ≤ maxLen) (i j : Nat) (hi : i < n) (hj : j < n) (_hn : n ≤ 1000000) (hlen : pre.length + s.log.length + 1 ≤ 4000000000000) :
    Calls Try.prog 77 #[.pointer (some ⟨lb, 0, none⟩), .int .i64 (i : Nat), .int .i64 (j : Nat)] W fun e w' => e = .returned (.bool (ltT N zs s.d[i]! s.d[j]!)) ∧ ListR (ltT N zs) lb ib ic n N A nz c w0 pre (s.ask i j) w' := by
  have mixed := mixedOrders
  have l0 : ∀ q os, (Sort.grow (W.drewN q) os).cell? ⟨lb, 0, none⟩ = some (.int .i64 N) := fun q os => (h.grown q os).c0
  have l1 : ∀ q os, (Sort.grow (W.drewN q) os).cell? ⟨lb, 1, none⟩ = some (.slice A nz c) := fun q os => (h.grown q os).c1
  have l2 : ∀ q os, (Sort.grow (W.drewN q) os).cell? ⟨lb, 2, none⟩ = some (.slice (some ⟨ib, 0, none⟩) n ic) := fun q os => (h.grown q os).c2
  have l3 : ∀ q os, (Sort.grow (W.drewN q) os).cell? ⟨ib, i * 2, none⟩ = some (.int .i64 s.d[i]!.1) := fun q os => ((h.grown q os).at hi).1
  have l4 : ∀ q os, (Sort.grow (W.drewN q) os).cell? ⟨ib, j * 2, none⟩ = some (.int .i64 s.d[j]!.1) := fun q os => ((h.grown q os).at hj).1
  have hcg : ∀ q os, Calls Try.prog 30 #[.agg #[.int .i64 N, .slice A nz c], .int .i64 s.d[i]!.1, .int .i64 s.d[j]!.1] (Sort.grow (W.drewN q) os) fun e w' => e = .returned (.int .i64 (num N zs s.d[i]!.1 s.d[j]!.1)) ∧ ∃ q' os', w' = Sort.grow ((Sort.grow (W.drewN q) os).drewN q') os' := fun q os =>
    (number_any N A nz c zs _ _ _ (hz.below (h.grown q os).below) hnz).mono fun e w' ⟨he, hw⟩ => ⟨he, 0, #[.cells #[.int .i64 N, .slice A nz c] 28], by subst hw; rw [alloc_eq_grow]; rfl⟩
  have HLT := Lib.hid (show ltT N zs s.d[i]! s.d[j]! = decide (num N zs s.d[i]!.1 s.d[j]!.1 < 0) from rfl)
  have hiz : (i : Int) < (n : Int) := by omega
  have hjz : (j : Int) < (n : Int) := by omega
  have HEV := Lib.hid (show pre ++ (s.ask i j).log.map (evC (ltT N zs)) = (pre ++ s.log.map (evC (ltT N zs))) ++ [(1, (i : Int), (j : Int), ltT N zs s.d[i]! s.d[j]!)] from by simp [evC])
  have H := Lib.hid h
  generalize s.d[i]!.1 = x at l3 hcg HLT
  generalize s.d[j]!.1 = y at l4 hcg HLT
  generalize ltT N zs s.d[i]! s.d[j]! = yes at HLT HEV ⊢
  clear h hz hnz
  go_enter Try.func77, Try.ntmps77
  go_wp2_with fail
  go_quiet_grown (first | (go_at_call 30; refine Calls.grown_of (hcg _ _)))
  have hg := H.out.grown nq osq
  clear l0 l1 l2 l3 l4 hcg
  generalize Sort.grow (W.drewN nq) osq = wq at hg ⊢
  have HD := Lib.hid (show decide (num N zs x y < 0) = yes from HLT.out.symm)
  generalize decide (num N zs x y < 0) = yy at HD ⊢
  obtain rfl : yy = yes := HD.out
  obtain ⟨CA, cc, g1, g2⟩ := hg.c3
  generalize hLL : pre.length + s.log.length = L at g1 g2 hlen
  have hll := hg.ll
  have HOW := Lib.hid (g2.alloc (.cells #[.int .i64 1, .int .i64 i, .int .i64 j, .bool yy] 101))
  have HG := Lib.hid (show (wq.alloc (.cells #[.int .i64 1, .int .i64 i, .int .i64 j, .bool yy] 101)).cell? ⟨wq.heap.size, 0, none⟩ = some (.int .i64 1) ∧ (wq.alloc (.cells #[.int .i64 1, .int .i64 i, .int .i64 j, .bool yy] 101)).cell? ⟨wq.heap.size, 1, none⟩ = some (.int .i64 i) ∧ (wq.alloc (.cells #[.int .i64 1, .int .i64 i, .int .i64 j, .bool yy] 101)).cell? ⟨wq.heap.size, 2, none⟩ = some (.int .i64 j) ∧ (wq.alloc (.cells #[.int .i64 1, .int .i64 i, .int .i64 j, .bool yy] 101)).cell? ⟨wq.heap.size, 3, none⟩ = some (.bool yy) from by simp)
  have HGR := Lib.hid (And.intro hg (And.intro g2 hLL))
  clear hg g2 hLL
  have KEY := Lib.hid (fun b1 c1 w1 h1 h2 => HGR.out.1.noted2 pre (s.ask i j) (1, (i : Int), (j : Int), yy) (CA := CA) (cc := cc) (L := L) (b' := b1) (c' := c1) (W' := w1) HGR.out.2.2.symm rfl HEV.out (.cells #[.int .i64 1, .int .i64 i, .int .i64 j, .bool yy] 101) g1 HGR.out.2.1 h1 h2)
  go_wp2_with (at_builtin; refine wpList_appC rfl (.tmp 34) (.tmp 39) rfl (lb + 1) cc L CA _ rfl HOW.out wq.heap.size 1 i j yy rfl HG.out (by omega) (by simp; omega) ?_; intro b1 c1 w1 hown1 hgrow1; obtain ⟨hc2', hc3, hf3, HRES⟩ := KEY.out b1 c1 w1 hown1 hgrow1)
  go_ret
  exact ⟨rfl, HRES.out⟩
end Go.Proofs.Ytdpomoengbpcaaa
