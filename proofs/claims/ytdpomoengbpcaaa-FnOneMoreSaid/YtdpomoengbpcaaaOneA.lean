/- Words for laws.FnOneMore: a fresh box of three, in the worlds behind it. -/
import Derived.Test.YtdpomoengbpcaaaPut
namespace Go.Proofs.Ytdpomoengbpcaaa
open Go.RowKit Go.Sort Go.Lib

theorem with_fact {P Q : Prop} (h : P) (k : Hid P → Q) : Q := k (Lib.hid h)
theorem below_al {w w' : World} (h : Below w.heap.size w w') (o : Obj) : Below w.heap.size w (w'.alloc o) := h.alloc h.size o
theorem below_grown {w w' w'' : World} {b : Nat} (h : Below w.heap.size w w') (hg : w'.grownBy w'' (some b)) (hb : w.heap.size ≤ b) : Below w.heap.size w w'' := below_app h hg h.size hb
theorem below_then {w w' w'' : World} (h : Below w.heap.size w w') (h2 : Below w'.heap.size w' w'') : Below w.heap.size w w'' := h.trans (h2.mono h.size)
theorem below_le {w w' : World} (h : Below w.heap.size w w') : w.heap.size ≤ w'.heap.size := h.size
theorem below_dw {w w' : World} (h : Below w.heap.size w w') : Below w.heap.size w w'.drew := ⟨h.os, h.tape, h.output, h.size, h.block⟩
theorem OwnI.dr {w : World} {base b c : Nat} {xs : List It} (h : OwnI w base b c xs) : OwnI w.drew base b c xs := h
theorem ItemsR.dr {w : World} {b o m : Nat} {xs : List It} (h : ItemsR w b o m xs) : ItemsR w.drew b o m xs := h
/-- The block ab is a fresh box of three. -/
def Z3h (w : World) (ab : Nat) : Prop := w.heap[ab]? = some (.cells #[.slice none 0 0, .slice none 0 0, .slice none 0 0] 25)
theorem Z3h.dr {w : World} {ab : Nat} (h : Z3h w ab) : Z3h w.drew ab := h
theorem Z3h.lt {w : World} {ab : Nat} (h : Z3h w ab) : ab < w.heap.size := (Array.getElem?_eq_some_iff.1 h).1
theorem Z3h.at {w : World} {ab : Nat} (hs : w.heap.size = ab) : Z3h (w.alloc (.cells #[.slice none 0 0, .slice none 0 0, .slice none 0 0] 25)) ab := by
  subst hs; exact heap_alloc_new w _
theorem Z3h.alloc {w : World} {ab : Nat} (h : Z3h w ab) (o : Obj) : Z3h (w.alloc o) ab := (heap_alloc_old w o h.lt).trans h
theorem Z3h.below {w w' : World} {ab : Nat} (h : Z3h w ab) (hb : Below w.heap.size w w') : Z3h w' ab := (hb.block ab h.lt).trans h
theorem Z3h.grownO {w W : World} {ab b : Nat} (base c : Nat) (xs : List It) (h : Z3h w ab) (hg : w.grownBy W (some b)) (ho : OwnI w base b c xs) : Z3h W ab := by
  refine (hg.block ab h.lt ?_).trans h
  intro e
  injection e with e
  subst e
  rcases ho.2 with ⟨e, _⟩ | ⟨g, cap, cur, e, _, hgg, _⟩
  · injection e with e; cases e
  · injection e with e1
    injection e1 with e1
    injection e1 with e1
    subst e1
    have h2 := h.symm.trans hgg
    injection h2 with h2
    injection h2 with _ h3
    exact absurd h3 (by decide)
theorem Z3h.z3 {w : World} {ab : Nat} (h : Z3h w ab) : Z3 w ab := by
  have hl := h.lt
  unfold Z3h at h
  refine ⟨?_, ?_, ?_, ?_, ?_, ?_, hl⟩ <;> simp [World.cell?, World.frozen?, h]
theorem ownX (w : World) (base S : Nat) (hS : w.heap.size = S) (hb : base ≤ S) (x : It) : OwnI (w.alloc (.cells #[.int .i64 x.1, .int .i64 x.2] 35)) base S 1 [x] := by
  subst hS
  exact ⟨rfl, .inr ⟨w.heap.size, 1, _, rfl, hb, heap_alloc_new w _, Nat.le_refl _, by decide, rfl, rfl⟩⟩
end Go.Proofs.Ytdpomoengbpcaaa
