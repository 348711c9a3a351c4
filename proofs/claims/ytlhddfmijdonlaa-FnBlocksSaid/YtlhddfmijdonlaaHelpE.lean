/- Walks: spec.Arranged, laws.same. -/
import Derived.Test.YtlhddfmijdonlaaHelpD
namespace Go.Proofs.Ytlhddfmijdonlaa
open Go.RowKit Go.Sort Go.Lib

theorem made_ints (n : Nat) : (madeCells #[Value.int .i64 0] (n * 1)).toList = (List.replicate n (0 : Int)).map (Value.int .i64) := by
  rw [List.map_replicate, Nat.mul_one]
  apply List.ext_getElem
  · simp [madeCells]
  · intro i h1 h2
    simp [madeCells, Nat.mod_one]

theorem wpList_makeZ {ops : Array Oper} {rest : List Oper} {op : Oper} {a : Act} {w : World} {Q : Exit → Act → World → Prop} (hgd : op.guard = none) (l c : Operand) (ho : op.op = .makeSlice 22 l c)
    (base n : Nat) (hl : a.eval l = .int .i64 (n : Int)) (hc : a.eval c = .int .i64 (n : Int)) (hn : n ≤ 17592186044416) (hb : base ≤ w.heap.size)
    (h : ∀ w', Hid (n = (List.replicate n (0 : Int)).length ∧ OwnZ w' base w.heap.size n (List.replicate n 0)) → Hid (w.grownBy w' none) → wpList Try.prog ops Q rest (a.put op.dst (.slice (some ⟨w.heap.size, 0, none⟩) n n)) w') : wpList Try.prog ops Q (op :: rest) a w := by
  obtain ⟨i0, hi, hz0, hz1, hz2⟩ := info_parts info_int
  refine wpList_make_full w hgd l c 22 ho base 3 i0 _ 1 Try.underlying22 hi hz0 hz1 .i64 .i64 n n n hl hc rfl rfl (by rw [hz2]; omega) (by unfold maxLen; omega) hb ?_
  intro w' h1 h2
  refine h w' ⟨by simp, ?_⟩ h2
  unfold OwnZ
  rw [List.length_replicate, ← made_ints]
  exact h1

theorem OwnZ.set {w : World} {base b c : Nat} {zs : List Int} (h : OwnZ w base b c zs) (j : Nat) (x : Int) : OwnZ (w.setCell ⟨b, j, none⟩ (.int .i64 x)) base b c (zs.set j x) := by
  unfold OwnZ
  have := World.ownsRow.stored h j (.int .i64 x)
  rw [List.length_set, List.map_set]
  exact this.1
theorem OwnZ.at_ {w : World} {base b c : Nat} {zs : List Int} (h : OwnZ w base b c zs) (j : Nat) (hj : j < zs.length) : w.cell? ⟨b, j, none⟩ = some (.int .i64 (zs.getD j 0)) ∧ w.frozen? ⟨b, j, none⟩ = false := by
  refine ⟨?_, World.ownsRow.frozenAt h j⟩
  have e1 := World.ownsRow.cellAt h j (by omega)
  rw [e1, List.getElem?_map, List.getElem?_eq_getElem hj, List.getD_eq_getElem?_getD, List.getElem?_eq_getElem hj]
  rfl

/-- Index k counts for the place of index i. -/
def befB (S : Int → Int → Int) (ks : List Int) (i k : Nat) : Bool := decide (S (ks.getD k 0) (ks.getD i 0) < 0) || (decide (S (ks.getD k 0) (ks.getD i 0) = 0) && decide (k < i))
def placeTo (S : Int → Int → Int) (ks : List Int) (i j : Nat) : Nat := (List.range j).countP (befB S ks i)
def arrTo (S : Int → Int → Int) (ks : List Int) (k : Nat) : List Int := (List.range k).foldl (fun out i => out.set (placeTo S ks i ks.length) (i : Int)) (List.replicate ks.length 0)
theorem placeTo_succ (S : Int → Int → Int) (ks : List Int) (i j : Nat) : placeTo S ks i (j + 1) = placeTo S ks i j + if befB S ks i j then 1 else 0 := by
  unfold placeTo; rw [List.range_succ, List.countP_append, List.countP_singleton]
theorem placeTo_le (S : Int → Int → Int) (ks : List Int) (i j : Nat) : placeTo S ks i j ≤ j := by
  have := List.countP_le_length (p := befB S ks i) (l := List.range j); simpa [placeTo] using this
theorem placeTo_lt (S : Int → Int → Int) (ks : List Int) (i : Nat) (h : 0 ≤ S (ks.getD i 0) (ks.getD i 0)) : ∀ j, i < j → placeTo S ks i j < j
  | 0, h0 => by omega
  | j + 1, h0 => by
    rw [placeTo_succ]
    by_cases e : i = j
    · subst e
      have : befB S ks i i = false := by unfold befB; rw [decide_eq_false (by omega), decide_eq_false (show ¬ i < i by omega)]; simp
      rw [this]; have := placeTo_le S ks i i; simp; omega
    · have := placeTo_lt S ks i h j (by omega)
      split <;> omega
theorem arrTo_succ (S : Int → Int → Int) (ks : List Int) (k : Nat) : arrTo S ks (k + 1) = (arrTo S ks k).set (placeTo S ks k ks.length) (k : Int) := by
  unfold arrTo; rw [List.range_succ, List.foldl_append]; rfl
theorem arrTo_length (S : Int → Int → Int) (ks : List Int) : ∀ k, (arrTo S ks k).length = ks.length
  | 0 => by simp [arrTo]
  | k + 1 => by rw [arrTo_succ, List.length_set]; exact arrTo_length S ks k

/-- The table's sign of two keys. -/
def sg (N : Int) (zs : List Int) (a b : Int) : Int := sgn (num N zs a b)

end Go.Proofs.Ytlhddfmijdonlaa
