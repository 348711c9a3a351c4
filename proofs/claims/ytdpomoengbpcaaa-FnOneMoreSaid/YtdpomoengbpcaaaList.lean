/- Words for the list that writes its calls down: its world; append at calls. -/
import Derived.Test.YtdpomoengbpcaaaIfcD
import Derived.Test.YtdpomoengbpcaaaApp
import Derived.Test.YtdpomoengbpcaaaImpA
import Derived.Shelf.SlSortCmp.QuietGrown
namespace Go.Proofs.Ytdpomoengbpcaaa
open Go.RowKit Go.Sort Go.Lib

/-- A call: its kind, its two indices, what it gave. -/
abbrev Cl := Int × Int × Int × Bool
def encC (c : Cl) : List Value := [.int .i64 c.1, .int .i64 c.2.1, .int .i64 c.2.2.1, .bool c.2.2.2]
def flatC (cs : List Cl) : List Value := cs.flatMap encC
theorem flatC_length (cs : List Cl) : (flatC cs).length = cs.length * 4 := by
  induction cs with
  | nil => rfl
  | cons x r ih => simp only [flatC, List.flatMap_cons, List.length_append, List.length_cons] at ih ⊢; simp only [encC, List.length_cons, List.length_nil]; omega
theorem flatC_append (xs ys : List Cl) : flatC xs ++ flatC ys = flatC (xs ++ ys) := by simp [flatC]
/-- What is written down of an event. -/
def evC (lt : It → It → Bool) : Ev It → Cl
  | .less i j x y => (1, (i : Int), (j : Int), lt x y)
  | .swap i j => (2, (i : Int), (j : Int), false)

theorem info_Call : (Try.prog.info? 101).map (fun i => (i.zero, i.size, i.bytes)) = some (some (.agg #[.int .i64 0, .int .i64 0, .int .i64 0, .bool false]), 4, 32) := by kernel_rfl

theorem wpList_appC {ops : Array Oper} {rest : List Oper} {op : Oper} {a : Act} {w : World} {Q : Exit → Act → World → Prop} (hgd : op.guard = none) (s x : Operand)
    (ho : op.op = .call { callee := .builtin .append, args := #[s, x], argTypes := #[47, 47] })
    (base c n : Nat) (A : Option Addr) (cs : List Cl) (hs : a.eval s = .slice A n c) (hown : Hid (w.ownsRow base 101 4 (.slice A n c) n (flatC cs)))
    (g : Nat) (k i j : Int) (y : Bool) (hx : a.eval x = .slice (some ⟨g, 0, none⟩) 1 1) (hg : Hid (w.cell? ⟨g, 0, none⟩ = some (.int .i64 k) ∧ w.cell? ⟨g, 1, none⟩ = some (.int .i64 i) ∧ w.cell? ⟨g, 2, none⟩ = some (.int .i64 j) ∧ w.cell? ⟨g, 3, none⟩ = some (.bool y)))
    (hlen : n + 1 ≤ 4000000000000) (hbase : base ≤ w.heap.size)
    (h : ∀ b' c' w', Hid (w'.ownsRow base 101 4 (.slice (some ⟨b', 0, none⟩) (n + 1) c') (n + 1) (flatC (cs ++ [(k, i, j, y)]))) → Hid (w.grownBy w' (Value.slice A n c).ownBlock) → wpList Try.prog ops Q rest (a.put op.dst (.slice (some ⟨b', 0, none⟩) (n + 1) c')) w') : wpList Try.prog ops Q (op :: rest) a w := by
  obtain ⟨i0, hi, hz0, hz1, hz2⟩ := info_parts info_Call
  have hg' := hg.out
  refine wpList_append_own w hgd s x 47 ho base 101 i0 _ 4 32 Try.underlying47 hi hz0 hz1 hz2 rfl (by decide) _ n (flatC cs) hs hown.out ⟨g, 0, none⟩ 1 1 (flatC [(k, i, j, y)]) hx rfl ?_ ?_ (by unfold maxLen; omega) (by omega) hbase ?_
  · intro q u hu
    rw [addr_add, Nat.zero_add]
    match q, hu with
    | 0, hu => rw [hg'.1]; simpa [flatC, encC] using hu
    | 1, hu => rw [hg'.2.1]; simpa [flatC, encC] using hu
    | 2, hu => rw [hg'.2.2.1]; simpa [flatC, encC] using hu
    | 3, hu => rw [hg'.2.2.2]; simpa [flatC, encC] using hu
    | q + 4, hu => simp [flatC, encC] at hu
  · intro u hu
    simp [flatC, encC] at hu
    rcases hu with rfl | rfl | rfl | rfl <;> rfl
  · intro v' w' h1 h2 h3
    rw [flatC_append] at h1
    have hv : v' ≠ .slice none 0 0 := fun e => by have := (h3.1 e).2; omega
    rcases h1.2 with ⟨e, _⟩ | ⟨g', cap, cur, rfl, r⟩
    · exact absurd e hv
    · exact h g' cap w' h1 h2

/-- The world of a list whose struct lies in block lb, whose entries lie in block ib: they are those of the state; its calls are those of pre and of the state's log; all below w0's blocks is as it was. -/
structure ListR (lt : It → It → Bool) (lb ib ic n : Nat) (N : Int) (A : Option Addr) (nz c : Nat) (w0 : World) (pre : List Cl) (s : St It) (W : World) : Prop where
  sz : s.d.size = n
  c0 : W.cell? ⟨lb, 0, none⟩ = some (.int .i64 N)
  c1 : W.cell? ⟨lb, 1, none⟩ = some (.slice A nz c)
  c2 : W.cell? ⟨lb, 2, none⟩ = some (.slice (some ⟨ib, 0, none⟩) n ic)
  c3 : ∃ CA cc, W.cell? ⟨lb, 3, none⟩ = some (.slice CA (pre.length + s.log.length) cc) ∧ W.ownsRow (lb + 1) 101 4 (.slice CA (pre.length + s.log.length) cc) (pre.length + s.log.length) (flatC (pre ++ s.log.map (evC lt)))
  f3 : W.frozen? ⟨lb, 3, none⟩ = false
  holds : HoldsK encI 2 W ib 0 s.d
  il : ib < lb
  wl : w0.heap.size ≤ ib
  ll : lb < W.heap.size
  below : Below w0.heap.size w0 W

section
variable {lt : It → It → Bool} {lb ib ic n : Nat} {N : Int} {A : Option Addr} {nz c : Nat} {w0 : World} {pre : List Cl} {s : St It} {W : World}
theorem ListR.grown (h : ListR lt lb ib ic n N A nz c w0 pre s W) (q : Nat) (os : Array Obj) : ListR lt lb ib ic n N A nz c w0 pre s (Sort.grow (W.drewN q) os) := by
  have cell : ∀ b o, b < W.heap.size → (Sort.grow (W.drewN q) os).cell? ⟨b, o, none⟩ = W.cell? ⟨b, o, none⟩ := fun b o hb => by rw [cell?_grow _ _ _ (by exact hb)]; rfl
  obtain ⟨CA, cc, g1, g2⟩ := h.c3
  have hbel : Below W.heap.size W (Sort.grow (W.drewN q) os) := ⟨rfl, rfl, rfl, by simp, fun k hk => by rw [heap_grow_old _ _ (by exact hk)]; rfl⟩
  refine ⟨h.sz, (cell lb 0 h.ll).trans h.c0, (cell lb 1 h.ll).trans h.c1, (cell lb 2 h.ll).trans h.c2, ⟨CA, cc, (cell lb 3 h.ll).trans g1, ?_⟩, ?_, ?_, h.il, h.wl, Nat.lt_of_lt_of_le h.ll hbel.size, h.below.trans (hbel.mono h.below.size)⟩
  · exact g2.kept (row := none) ⟨hbel.os, hbel.tape, hbel.output, hbel.size, fun k hk _ => hbel.block k hk⟩ (by cases CA <;> simp [Value.ownBlock])
  · rw [frozen?_grow _ _ _ (by exact h.ll)]; exact h.f3
  · exact holdsK_grow encI 2 (W.drewN q) os ib 0 s.d (by have := h.il; have := h.ll; show ib < W.heap.size; omega) h.holds
/-- The two cells of entry i. -/
theorem ListR.at (h : ListR lt lb ib ic n N A nz c w0 pre s W) {i : Nat} (hi : i < n) :
    W.cell? ⟨ib, i * 2, none⟩ = some (.int .i64 s.d[i]!.1) ∧ W.cell? ⟨ib, i * 2 + 1, none⟩ = some (.int .i64 s.d[i]!.2) ∧ W.frozen? ⟨ib, i * 2, none⟩ = false ∧ W.frozen? ⟨ib, i * 2 + 1, none⟩ = false := by
  have hi' : i < s.d.size := by rw [h.sz]; exact hi
  have h0 := h.holds.cell hi' (show 0 < 2 by omega)
  have h1 := h.holds.cell hi' (show 1 < 2 by omega)
  simp only [Nat.zero_add, Nat.add_zero] at h0 h1
  exact ⟨h0.1, h1.1, h0.2, h1.2⟩
/-- Behind an append onto the calls and the store of the new slice: an event more. -/
theorem ListR.noted (h : ListR lt lb ib ic n N A nz c w0 pre s W) (pre' : List Cl) (s' : St It) (ev : Cl) {CA : Option Addr} {cc L b' c' : Nat} {W' : World} (hL : L = pre.length + s.log.length) (hd : s'.d = s.d)
    (hcs : pre' ++ s'.log.map (evC lt) = (pre ++ s.log.map (evC lt)) ++ [ev]) (o : Obj)
    (hgr : (W.alloc o).grownBy W' (Value.slice CA L cc).ownBlock) (hold : W.ownsRow (lb + 1) 101 4 (.slice CA L cc) L (flatC (pre ++ s.log.map (evC lt))))
    (hnew : W'.ownsRow (lb + 1) 101 4 (.slice (some ⟨b', 0, none⟩) (L + 1) c') (L + 1) (flatC ((pre ++ s.log.map (evC lt)) ++ [ev]))) :
    W'.cell? ⟨lb, 3, none⟩ = some (.slice CA L cc) → W'.frozen? ⟨lb, 3, none⟩ = false ∧ ListR lt lb ib ic n N A nz c w0 pre' s' (W'.setCell ⟨lb, 3, none⟩ (.slice (some ⟨b', 0, none⟩) (L + 1) c')) := by
  intro hc3
  have hrow : ∀ k, (Value.slice CA L cc).ownBlock = some k → lb + 1 ≤ k := fun k hk => (hold.lt k hk).1
  have blk : ∀ k, k ≤ lb → W'.heap[k]? = W.heap[k]? := fun k hk => by
    have hlt : k < W.heap.size := by have := h.ll; omega
    rw [hgr.block k (by simp; omega) (fun e => by have := hrow k e.symm; omega)]
    exact Below.heap_alloc W o k hlt
  have cell : ∀ b q, b ≤ lb → W'.cell? ⟨b, q, none⟩ = W.cell? ⟨b, q, none⟩ := fun b q hb => World.cell?_of_block (w := W) (blk b hb)
  have froz : ∀ b q, b ≤ lb → W'.frozen? ⟨b, q, none⟩ = W.frozen? ⟨b, q, none⟩ := fun b q hb => World.frozen?_of_block (w := W) (blk b hb)
  have hlen : pre'.length + s'.log.length = L + 1 := by
    have := congrArg List.length hcs
    simp at this; omega
  have other : ∀ q, q ≠ 3 → (W'.setCell ⟨lb, 3, none⟩ (.slice (some ⟨b', 0, none⟩) (L + 1) c')).cell? ⟨lb, q, none⟩ = W'.cell? ⟨lb, q, none⟩ := fun q hq => World.cell?_setCell_other _ _ _ _ (fun e => by injection e with _ e2; exact hq e2.symm)
  refine ⟨(froz lb 3 (Nat.le_refl _)).trans h.f3, ⟨by rw [hd]; exact h.sz, ?_, ?_, ?_, ?_, ?_, ?_, h.il, h.wl, ?_, ?_⟩⟩
  · rw [other 0 (by omega), cell lb 0 (Nat.le_refl _)]; exact h.c0
  · rw [other 1 (by omega), cell lb 1 (Nat.le_refl _)]; exact h.c1
  · rw [other 2 (by omega), cell lb 2 (Nat.le_refl _)]; exact h.c2
  · refine ⟨some ⟨b', 0, none⟩, c', ?_, ?_⟩
    · rw [hlen]; exact World.cell?_setCell_same' _ _ _ (by rw [hc3]; rfl)
    · rw [hlen, hcs]; exact ownsRow_setCell_below hnew (by show lb < lb + 1; omega) _
  · rw [World.frozen?_setCell]; exact (froz lb 3 (Nat.le_refl _)).trans h.f3
  · intro j hj
    have hj' : j < (flatK encI 2 s.d).size := by rw [hd] at hj; exact hj
    have := h.holds j hj'
    have hil := h.il
    rw [hd, World.cell?_setCell_other _ _ _ _ (fun e => by injection e with e1; omega), World.frozen?_setCell, cell ib _ (by omega), froz ib _ (by omega)]
    exact this
  · show lb < (W'.setCell _ _).heap.size
    have h1 := hgr.size
    have h2 := h.ll
    simp [World.setCell] at h1 ⊢; omega
  · have hw := h.wl
    have hil := h.il
    have hB : Below w0.heap.size w0 W' := h.below.trans ⟨hgr.os, hgr.tape, hgr.output, by have := hgr.size; simp at this; omega, fun k hk => blk k (by omega)⟩
    exact hB.setCell (by show w0.heap.size ≤ lb; omega) _
/-- .. with what the walk of the store wants. -/
theorem ListR.noted2 (h : ListR lt lb ib ic n N A nz c w0 pre s W) (pre' : List Cl) (s' : St It) (ev : Cl) {CA : Option Addr} {cc L b' c' : Nat} {W' : World} (hL : L = pre.length + s.log.length) (hd : s'.d = s.d)
    (hcs : pre' ++ s'.log.map (evC lt) = (pre ++ s.log.map (evC lt)) ++ [ev]) (o : Obj) (g1 : W.cell? ⟨lb, 3, none⟩ = some (.slice CA L cc))
    (hold : W.ownsRow (lb + 1) 101 4 (.slice CA L cc) L (flatC (pre ++ s.log.map (evC lt))))
    (hnew : Hid (W'.ownsRow (lb + 1) 101 4 (.slice (some ⟨b', 0, none⟩) (L + 1) c') (L + 1) (flatC ((pre ++ s.log.map (evC lt)) ++ [ev]))))
    (hgr : Hid ((W.alloc o).grownBy W' (Value.slice CA L cc).ownBlock)) :
    W'.cell? ⟨lb, 2, none⟩ = some (.slice (some ⟨ib, 0, none⟩) n ic) ∧ W'.cell? ⟨lb, 3, none⟩ = some (.slice CA L cc) ∧ W'.frozen? ⟨lb, 3, none⟩ = false ∧ Hid (ListR lt lb ib ic n N A nz c w0 pre' s' (W'.setCell ⟨lb, 3, none⟩ (.slice (some ⟨b', 0, none⟩) (L + 1) c'))) := by
  have hcq : ∀ q, W'.cell? ⟨lb, q, none⟩ = W.cell? ⟨lb, q, none⟩ := fun q => by
    have hne : some lb ≠ (Value.slice CA L cc).ownBlock := fun e => by have := (hold.lt lb e.symm).1; omega
    have hll := h.ll
    rw [World.cell?_of_block (w := W.alloc o) (hgr.out.block lb (by simp; omega) hne), World.cell?_alloc_lt _ _ _ hll]
  have hn := h.noted pre' s' ev hL hd hcs o hgr.out hold hnew.out ((hcq 3).trans g1)
  exact ⟨(hcq 2).trans h.c2, (hcq 3).trans g1, hn.1, hn.2⟩
end
end Go.Proofs.Ytdpomoengbpcaaa
