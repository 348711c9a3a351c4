/- Walks: the method Swap of the list that writes its calls down; its three methods together. -/
import Derived.Test.YtdpomoengbpcaaaListB
namespace Go.Proofs.Ytdpomoengbpcaaa
open Go.RowKit Go.Sort Go.Lib

section
variable {lt : It → It → Bool} {lb ib ic n : Nat} {N : Int} {A : Option Addr} {nz c : Nat} {w0 : World} {pre : List Cl} {s : St It} {W : World}
/-- The world behind the exchange of the entries i and j. -/
theorem ListR.swapped (h : ListR lt lb ib ic n N A nz c w0 pre s W) {i j : Nat} (hi : i < n) (hj : j < n) (s' : St It) (hd : s'.d = swp s.d i j) (hl : s'.log = s.log) :
    ListR lt lb ib ic n N A nz c w0 pre s' ((((W.setCell ⟨ib, i * 2, none⟩ (.int .i64 s.d[j]!.1)).setCell ⟨ib, i * 2 + 1, none⟩ (.int .i64 s.d[j]!.2)).setCell ⟨ib, j * 2, none⟩ (.int .i64 s.d[i]!.1)).setCell ⟨ib, j * 2 + 1, none⟩ (.int .i64 s.d[i]!.2)).drew := by
  have hil := h.il
  have hll := h.ll
  have hwl := h.wl
  have hR : RowR ib W s.d W := ⟨World.grownBy.refl W _, h.holds, by omega⟩
  have hS := (hR.swapped (by rw [h.sz]; exact hi) (by rw [h.sz]; exact hj)).drewN 1
  generalize hW : (((W.setCell ⟨ib, i * 2, none⟩ (.int .i64 s.d[j]!.1)).setCell ⟨ib, i * 2 + 1, none⟩ (.int .i64 s.d[j]!.2)).setCell ⟨ib, j * 2, none⟩ (.int .i64 s.d[i]!.1)).setCell ⟨ib, j * 2 + 1, none⟩ (.int .i64 s.d[i]!.2) = W1 at hS ⊢
  change ListR lt lb ib ic n N A nz c w0 pre s' (W1.drewN 1)
  have blk : ∀ k, k < W.heap.size → k ≠ ib → (W1.drewN 1).heap[k]? = W.heap[k]? := fun k hk hne => hS.only.block k hk (fun e => by injection e with e; exact hne e)
  have cell : ∀ q, (W1.drewN 1).cell? ⟨lb, q, none⟩ = W.cell? ⟨lb, q, none⟩ := fun q => World.cell?_of_block (w := W) (blk lb hll (by omega))
  obtain ⟨CA, cc, g1, g2⟩ := h.c3
  refine ⟨by rw [hd, size_swp]; exact h.sz, (cell 0).trans h.c0, (cell 1).trans h.c1, (cell 2).trans h.c2, ⟨CA, cc, ?_, ?_⟩, ?_, by rw [hd]; exact hS.holds, hil, hwl, Nat.lt_of_lt_of_le hll hS.only.size, ?_⟩
  · rw [hl]; exact (cell 3).trans g1
  · rw [hl]
    refine g2.kept (row := some ib) hS.only ?_
    cases CA with
    | none => exact .inl rfl
    | some a => exact .inr (fun e => by have := (g2.lt ib e).1; omega)
  · exact (World.frozen?_of_block (w := W) (blk lb hll (by omega))).trans h.f3
  · exact h.below.trans ⟨hS.only.os, hS.only.tape, hS.only.output, hS.only.size, fun k hk => blk k (by omega) (by omega)⟩
end

set_option maxHeartbeats 2000000 in
set_option maxRecDepth 1000000 in
theorem list_Swap (lt : It → It → Bool) (lb ib ic n : Nat) (N : Int) (A : Option Addr) (nz c : Nat) (w0 : World) (pre : List Cl) (s : St It) (W : World) (h : ListR lt lb ib ic n N A nz c w0 pre s W) (i j : Nat) (hi : i < n) (hj : j < n) (_hn : n ≤ 1000000) (hlen : pre.length + s.log.length + 1 ≤ 4000000000000) :
    Calls Try.prog 78 #[.pointer (some ⟨lb, 0, none⟩), .int .i64 (i : Nat), .int .i64 (j : Nat)] W fun e w' => e = .returned (.tuple #[]) ∧ ListR lt lb ib ic n N A nz c w0 pre (s.swap i j) w' := by
  obtain ⟨CA, cc, g1, g2⟩ := h.c3
  have hLL : pre.length + s.log.length = pre.length + s.log.length := rfl
  generalize hLe : pre.length + s.log.length = L at g1 g2 hlen
  have hll := h.ll
  have hil := h.il
  have HOW := Lib.hid (g2.alloc (.cells #[.int .i64 2, .int .i64 i, .int .i64 j, .bool false] 101))
  have HG := Lib.hid (show (W.alloc (.cells #[.int .i64 2, .int .i64 i, .int .i64 j, .bool false] 101)).cell? ⟨W.heap.size, 0, none⟩ = some (.int .i64 2) ∧ (W.alloc (.cells #[.int .i64 2, .int .i64 i, .int .i64 j, .bool false] 101)).cell? ⟨W.heap.size, 1, none⟩ = some (.int .i64 i) ∧ (W.alloc (.cells #[.int .i64 2, .int .i64 i, .int .i64 j, .bool false] 101)).cell? ⟨W.heap.size, 2, none⟩ = some (.int .i64 j) ∧ (W.alloc (.cells #[.int .i64 2, .int .i64 i, .int .i64 j, .bool false] 101)).cell? ⟨W.heap.size, 3, none⟩ = some (.bool false) from by simp)
  have KEY := Lib.hid (fun b1 c1 w1 h1 h2 => h.noted2 pre ⟨s.d, s.log ++ [.swap i j]⟩ (2, (i : Int), (j : Int), false) (CA := CA) (cc := cc) (L := L) (b' := b1) (c' := c1) (W' := w1) hLe.symm rfl (by simp [evC]) (.cells #[.int .i64 2, .int .i64 i, .int .i64 j, .bool false] 101) g1 g2 h1 h2)
  clear hLL h g2 hLe
  go_enter Try.func78, Try.ntmps78
  go_wp2_with (at_builtin; refine wpList_appC rfl (.tmp 10) (.tmp 14) rfl (lb + 1) cc L CA _ rfl HOW.out W.heap.size 2 i j false rfl HG.out (by omega) (by simp; omega) ?_; intro b1 c1 w1 hown1 hgrow1; obtain ⟨hc2', hc3, hf3, HRES⟩ := KEY.out b1 c1 w1 hown1 hgrow1)
  generalize w1.setCell ⟨lb, 3, none⟩ (.slice (some ⟨b1, 0, none⟩) (L + 1) c1) = wq at HRES ⊢
  clear hc2' hc3 hf3 KEY HOW HG hown1 hgrow1 g1
  have hR := HRES.out
  have m2 := hR.c2
  have hne : lb ≠ ib := by omega
  obtain ⟨x1, x2, y1, y2⟩ := hR.at hi
  obtain ⟨u1, u2, v1, v2⟩ := hR.at hj
  have hRow : RowR ib wq s.d wq := ⟨World.grownBy.refl wq _, hR.holds, by have := hR.ll; have := hR.il; omega⟩
  have hsz : s.d.size = n := hR.sz
  obtain ⟨z1, z2, hz1, hz2⟩ := hRow.stores (i := i) (j := j) (by rw [hsz]; exact hj) s.d[j]!
  have HF := Lib.hid (hR.swapped hi hj (s.swap i j) rfl rfl)
  simp only at x1 x2 u1 u2
  have HF' : Hid (ListR lt lb ib ic n N A nz c w0 pre (s.swap i j) ((((wq.setCell ⟨ib, i * 2, none⟩ (.int .i64 s.d[j]!.1)).setCell ⟨ib, i * 2 + 1, none⟩ (.int .i64 s.d[j]!.2)).setCell ⟨ib, j * 2, none⟩ (.int .i64 s.d[i]!.1)).setCell ⟨ib, j * 2 + 1, none⟩ (.int .i64 s.d[i]!.2)).drew) := HF.out
  clear HF hR hRow hsz HRES
  generalize s.d[i]! = X at x1 x2 HF'
  generalize s.d[j]! = Y at u1 u2 hz1 hz2 HF'
  have qa : (i : Int) < (n : Int) := by omega
  have qb : (j : Int) < (n : Int) := by omega
  go_wp2_with fail
  go_region
  all_goals go_wp2
  all_goals go_end0
  all_goals exact ⟨rfl, HF'.out⟩
end Go.Proofs.Ytdpomoengbpcaaa
