/- Words and a step: make of truth values; a row of entries and a table of truth values, both to be written. -/
import Derived.Test.YtlekkpjghamhcaaHelpF
namespace Go.Proofs.Ytlekkpjghamhcaa
open Go.RowKit Go.Sort Go.Lib

theorem info_bool : (Try.prog.info? 4).map (fun i => (i.zero, i.size, i.bytes)) = some (some (.bool false), 1, 1) := by kernel_rfl
/-- The block sb holds the truth values of f at 0 .. n-1, to be written. -/
def BoolsR (w : World) (sb n : Nat) (f : Nat → Bool) : Prop := sb < w.heap.size ∧ ∀ j, j < n → w.cell? ⟨sb, j, none⟩ = some (.bool (f j)) ∧ w.frozen? ⟨sb, j, none⟩ = false
theorem BoolsR.below {w w' : World} {sb n : Nat} {f : Nat → Bool} (h : BoolsR w sb n f) (hb : Below w.heap.size w w') : BoolsR w' sb n f :=
  ⟨Nat.lt_of_lt_of_le h.1 hb.size, fun j hj => ⟨(hb.cell (p := ⟨sb, j, none⟩) h.1).trans (h.2 j hj).1, (World.frozen?_of_block (hb.block sb h.1)).trans (h.2 j hj).2⟩⟩
theorem BoolsR.set {w : World} {sb n : Nat} {f : Nat → Bool} (h : BoolsR w sb n f) (k : Nat) (hk : k < n) (v : Bool) : BoolsR (w.setCell ⟨sb, k, none⟩ (.bool v)) sb n (fun j => if j = k then v else f j) := by
  refine ⟨by have := h.1; simpa [World.setCell] using this, fun j hj => ⟨?_, by rw [World.frozen?_setCell]; exact (h.2 j hj).2⟩⟩
  by_cases e : j = k
  · subst e
    show _ = some (Value.bool (if j = j then v else f j))
    rw [if_pos rfl]
    exact World.cell?_setCell_same' _ _ _ (by rw [(h.2 j hj).1]; rfl)
  · show _ = some (Value.bool (if j = k then v else f j))
    rw [if_neg e, World.cell?_setCell_other _ _ _ _ (fun x => by injection x with _ x2; exact e x2.symm)]
    exact (h.2 j hj).1

theorem made_bools (n : Nat) : (madeCells #[Value.bool false] (n * 1)).toList = List.replicate n (Value.bool false) := by
  apply List.ext_getElem
  · simp [madeCells]
  · intro i h1 h2
    simp [madeCells, Nat.mod_one]

theorem wpList_makeB {ops : Array Oper} {rest : List Oper} {op : Oper} {a : Act} {w : World} {Q : Exit → Act → World → Prop} (hgd : op.guard = none) (l c : Operand) (ho : op.op = .makeSlice 37 l c)
    (n : Nat) (hl : a.eval l = .int .i64 (n : Int)) (hc : a.eval c = .int .i64 (n : Int)) (hn : n ≤ 17592186044416)
    (h : ∀ w', Hid (BoolsR w' w.heap.size n (fun _ => false)) → Hid (w.grownBy w' none) → wpList Try.prog ops Q rest (a.put op.dst (.slice (some ⟨w.heap.size, 0, none⟩) n n)) w') : wpList Try.prog ops Q (op :: rest) a w := by
  obtain ⟨i0, hi, hz0, hz1, hz2⟩ := info_parts info_bool
  refine wpList_make_full w hgd l c 37 ho w.heap.size 4 i0 _ 1 Try.underlying37 hi hz0 hz1 .i64 .i64 n n n hl hc rfl rfl (by rw [hz2]; omega) (by unfold maxLen; omega) (Nat.le_refl _) ?_
  intro w' h1 h2
  refine h w' ⟨(World.ownsRow.lt h1 w.heap.size rfl).2, fun j hj => ⟨?_, World.ownsRow.frozenAt h1 j⟩⟩ h2
  have := World.ownsRow.cellAt h1 j (by omega)
  rw [this]
  have hm : ((madeCells (Value.bool false).cells (n * 1)).toList)[j]? = some (Value.bool false) := by
    rw [show (Value.bool false).cells = #[Value.bool false] from rfl, made_bools, List.getElem?_replicate, if_pos hj]
  exact hm

theorem BoolsR.only {w w' : World} {sb n b : Nat} {f : Nat → Bool} (h : BoolsR w sb n f) (hg : w.grownBy w' (some b)) (hne : sb ≠ b) : BoolsR w' sb n f :=
  have hb : w'.heap[sb]? = w.heap[sb]? := hg.block sb h.1 (fun e => by injection e with e; exact hne e)
  ⟨Nat.lt_of_lt_of_le h.1 hg.size, fun j hj => ⟨(World.cell?_of_block hb).trans (h.2 j hj).1, (World.frozen?_of_block hb).trans (h.2 j hj).2⟩⟩
theorem BoolsR.congr {w : World} {sb n : Nat} {f g : Nat → Bool} (h : BoolsR w sb n f) (e : ∀ j, j < n → f j = g j) : BoolsR w sb n g := ⟨h.1, fun j hj => by rw [← e j hj]; exact h.2 j hj⟩

/-- The block rb holds the entries d, the block sb the truth values f; what lies below the base is as it was. -/
structure Two (w0 : World) (rb sb n : Nat) (d : Array It) (f : Nat → Bool) (W : World) : Prop where
  row : RowR rb W d W
  bools : BoolsR W sb n f
  below : Below w0.heap.size w0 W
  ne : sb ≠ rb
  lr : w0.heap.size ≤ rb
  ls : w0.heap.size ≤ sb
section
variable {w0 W : World} {rb sb n : Nat} {d : Array It} {f : Nat → Bool}
theorem Two.of {d' : Array It} {W' : World} (h : Two w0 rb sb n d f W) (hr : RowR rb W d' W') : Two w0 rb sb n d' f W' :=
  ⟨RowR.start hr.ltW hr.holds, h.bools.only hr.only h.ne, below_app h.below hr.only h.below.size h.lr, h.ne, h.lr, h.ls⟩
theorem Two.alloc (h : Two w0 rb sb n d f W) (o : Obj) : Two w0 rb sb n d f (W.alloc o) := h.of (h.row.alloc o)
theorem Two.drewN (h : Two w0 rb sb n d f W) (k : Nat) : Two w0 rb sb n d f (W.drewN k) := h.of (h.row.drewN k)
theorem Two.set (h : Two w0 rb sb n d f W) (k : Nat) (hk : k < n) (v : Bool) : Two w0 rb sb n d (fun j => if j = k then v else f j) (W.setCell ⟨sb, k, none⟩ (.bool v)) where
  row := RowR.start (by have := h.row.lt; simpa [World.setCell] using this) (fun j hj => ⟨(World.cell?_of_block (Below.heap_setCell _ _ _ _ (Ne.symm h.ne))).trans (h.row.holds j hj).1, (World.frozen?_of_block (Below.heap_setCell _ _ _ _ (Ne.symm h.ne))).trans (h.row.holds j hj).2⟩)
  bools := h.bools.set k hk v
  below := h.below.setCell (p := ⟨sb, k, none⟩) h.ls (.bool v)
  ne := h.ne
  lr := h.lr
  ls := h.ls
end
end Go.Proofs.Ytlekkpjghamhcaa
