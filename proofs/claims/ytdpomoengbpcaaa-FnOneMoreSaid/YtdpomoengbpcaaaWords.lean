/- Words for memory: the row of entries that the sorts work on, in whatever world they pass through. -/
import Derived.Test.YtdpomoengbpcaaaLaws1
import Derived.Test.YtdpomoengbpcaaaProg
import Derived.WalkKit
import Derived.WalkSpells
import Derived.Lib.Hide
import Derived.Shelf.SlSortCmp.KitK
namespace Go.Proofs.Ytdpomoengbpcaaa
open Go.RowKit Go.Sort Go.Lib

/-- An entry: its key and its tag. -/
abbrev It := Int × Int
def encI (x : It) : List Value := [.int .i64 x.1, .int .i64 x.2]
theorem encI_length (x : It) : (encI x).length = 2 := rfl
theorem encI_one (x : It) : ∀ v ∈ encI x, v.oneCell' = true := by simp [encI, Value.oneCell']

/-- W is a world that comes from w0 by writes into block b alone, by draws and by new blocks; block b, from its first cell on, holds the entries d. -/
structure RowR (b : Nat) (w0 : World) (d : Array It) (W : World) : Prop where
  only : w0.grownBy W (some b)
  holds : HoldsK encI 2 W b 0 d
  lt : b < w0.heap.size

section
variable {b : Nat} {w0 W : World} {d : Array It}
theorem RowR.start (hb : b < w0.heap.size) (h : HoldsK encI 2 w0 b 0 d) : RowR b w0 d w0 := ⟨World.grownBy.refl w0 _, h, hb⟩
theorem RowR.ltW (h : RowR b w0 d W) : b < W.heap.size := Nat.lt_of_lt_of_le h.lt h.only.size
theorem RowR.drewN (h : RowR b w0 d W) (n : Nat) : RowR b w0 d (W.drewN n) := ⟨⟨h.only.os, h.only.tape, h.only.output, h.only.size, h.only.block⟩, h.holds, h.lt⟩
theorem RowR.grow (h : RowR b w0 d W) (os : Array Obj) : RowR b w0 d (Sort.grow W os) :=
  ⟨⟨h.only.os, h.only.tape, h.only.output, Nat.le_trans h.only.size (by simp), fun k hk hne => (heap_grow_old W os (Nat.lt_of_lt_of_le hk h.only.size)).trans (h.only.block k hk hne)⟩, holdsK_grow encI 2 W os b 0 d h.ltW h.holds, h.lt⟩
theorem RowR.grown (h : RowR b w0 d W) (n : Nat) (os : Array Obj) : RowR b w0 d (Sort.grow (W.drewN n) os) := (h.drewN n).grow os
theorem RowR.alloc (h : RowR b w0 d W) (o : Obj) : RowR b w0 d (W.alloc o) := by rw [alloc_eq_grow]; exact h.grow _
/-- The two cells of entry i. -/
theorem RowR.at (h : RowR b w0 d W) {i : Nat} (hi : i < d.size) :
    W.cell? ⟨b, i * 2, none⟩ = some (.int .i64 d[i]!.1) ∧ W.cell? ⟨b, i * 2 + 1, none⟩ = some (.int .i64 d[i]!.2) ∧ W.frozen? ⟨b, i * 2, none⟩ = false ∧ W.frozen? ⟨b, i * 2 + 1, none⟩ = false := by
  have h0 := h.holds.cell hi (show 0 < 2 by omega)
  have h1 := h.holds.cell hi (show 1 < 2 by omega)
  simp only [Nat.zero_add, Nat.add_zero] at h0 h1
  exact ⟨h0.1, h1.1, h0.2, h1.2⟩
/-- The world behind 'data[i], data[j] = data[j], data[i]': entry j laid at i, then entry i at j. -/
theorem RowR.swapped (h : RowR b w0 d W) {i j : Nat} (hi : i < d.size) (hj : j < d.size) :
    RowR b w0 (swp d i j) ((((W.setCell ⟨b, i * 2, none⟩ (.int .i64 d[j]!.1)).setCell ⟨b, i * 2 + 1, none⟩ (.int .i64 d[j]!.2)).setCell ⟨b, j * 2, none⟩ (.int .i64 d[i]!.1)).setCell ⟨b, j * 2 + 1, none⟩ (.int .i64 d[i]!.2)) := by
  have e := putRowK_swp encI 2 encI_length W b 0 d i j hi hj
  rw [putRowK_self encI 2 W b 0 d h.holds] at e
  simp only [encI, World.setCells, Nat.zero_add] at e
  have hh := holdsK_putRowK encI 2 W b 0 d (swp d i j) h.holds (size_swp d i j)
  rw [← show _ = putRowK encI 2 W b 0 (swp d i j) from e] at hh
  refine ⟨⟨h.only.os, h.only.tape, h.only.output, by simpa [World.setCell] using h.only.size, fun k hk hne => ?_⟩, hh, h.lt⟩
  have hkb : k ≠ b := fun e => hne (by rw [e])
  rw [Below.heap_setCell _ _ _ _ hkb, Below.heap_setCell _ _ _ _ hkb, Below.heap_setCell _ _ _ _ hkb, Below.heap_setCell _ _ _ _ hkb]
  exact h.only.block k hk hne
/-- The four cells that the exchange's stores meet. -/
theorem RowR.stores (h : RowR b w0 d W) {i j : Nat} (hj : j < d.size) (x : It) :
    ∃ z1 z2, (W.setCell ⟨b, i * 2, none⟩ (.int .i64 x.1)).cell? ⟨b, j * 2, none⟩ = some z1 ∧
      ((W.setCell ⟨b, i * 2, none⟩ (.int .i64 x.1)).setCell ⟨b, i * 2 + 1, none⟩ (.int .i64 x.2)).cell? ⟨b, j * 2 + 1, none⟩ = some z2 := by
  obtain ⟨c1, c2, _, _⟩ := h.at hj
  obtain ⟨z1, h1⟩ := cell?_setCell_some (w := W) (p := ⟨b, i * 2, none⟩) (x := .int .i64 x.1) c1
  obtain ⟨z2, h2⟩ := cell?_setCell_some (w := W) (p := ⟨b, i * 2, none⟩) (x := .int .i64 x.1) c2
  obtain ⟨z3, h3⟩ := cell?_setCell_some (p := ⟨b, i * 2 + 1, none⟩) (x := .int .i64 x.2) h2
  exact ⟨z1, z3, h1, h3⟩
end
end Go.Proofs.Ytdpomoengbpcaaa
