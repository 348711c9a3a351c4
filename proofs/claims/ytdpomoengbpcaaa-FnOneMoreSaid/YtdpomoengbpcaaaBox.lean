/- Words for the laws over the roads: a boxed table, a boxed array of three lists; what ranked and entries leave, in these words. -/
import Derived.Test.YtdpomoengbpcaaaRoads
import Derived.Test.YtdpomoengbpcaaaRdB
namespace Go.Proofs.Ytdpomoengbpcaaa
open Go.RowKit Go.Sort Go.Lib

/-- The block tb holds a table whose numbers are ts. -/
def TabB (w : World) (tb : Nat) (N : Int) (A : Option Addr) (L c : Nat) (ts : List Int) : Prop :=
  tb < w.heap.size ∧ w.cell? ⟨tb, 0, none⟩ = some (.int .i64 N) ∧ w.cell? ⟨tb, 1, none⟩ = some (.slice A L c) ∧ IntsR w A L ts ∧ L ≤ maxLen
theorem TabB.below {w w' : World} {tb : Nat} {N : Int} {A : Option Addr} {L c : Nat} {ts : List Int} (h : TabB w tb N A L c ts) (hb : Below w.heap.size w w') : TabB w' tb N A L c ts :=
  ⟨Nat.lt_of_lt_of_le h.1 hb.size, (hb.cell (p := ⟨tb, 0, none⟩) h.1).trans h.2.1, (hb.cell (p := ⟨tb, 1, none⟩) h.1).trans h.2.2.1, h.2.2.2.1.below hb, h.2.2.2.2⟩
theorem TabB.made {w : World} (N : Int) {A : Option Addr} {L : Nat} (c : Nat) {ts : List Int} (h : IntsR w A L ts) (hL : L ≤ maxLen) : TabB (w.alloc (.cells #[.int .i64 N, .slice A L c] 28)) w.heap.size N A L c ts :=
  ⟨by simp, by simp, by simp, h.alloc _, hL⟩
/-- The block ab holds three slices, each of which reads as the entries xs. -/
def Box3 (w : World) (ab m : Nat) (xs : List It) : Prop :=
  ∃ b0 c0 b1 c1 b2 c2, ab < w.heap.size ∧ w.cell? ⟨ab, 0, none⟩ = some (.slice (some ⟨b0, 0, none⟩) m c0) ∧ w.cell? ⟨ab, 1, none⟩ = some (.slice (some ⟨b1, 0, none⟩) m c1) ∧ w.cell? ⟨ab, 2, none⟩ = some (.slice (some ⟨b2, 0, none⟩) m c2) ∧ Rds w b0 b1 b2 m xs
theorem Box3.below {w w' : World} {ab m : Nat} {xs : List It} (h : Box3 w ab m xs) (hb : Below w.heap.size w w') : Box3 w' ab m xs := by
  obtain ⟨b0, c0, b1, c1, b2, c2, h0, h1, h2, h3, h4⟩ := h
  exact ⟨b0, c0, b1, c1, b2, c2, Nat.lt_of_lt_of_le h0 hb.size, (hb.cell (p := ⟨ab, 0, none⟩) h0).trans h1, (hb.cell (p := ⟨ab, 1, none⟩) h0).trans h2, (hb.cell (p := ⟨ab, 2, none⟩) h0).trans h3, h4.below hb⟩
theorem Box3.made {w : World} {b0 c0 b1 c1 b2 c2 m : Nat} {xs : List It} (h : Rds w b0 b1 b2 m xs) : Box3 (w.alloc (.cells #[.slice (some ⟨b0, 0, none⟩) m c0, .slice (some ⟨b1, 0, none⟩) m c1, .slice (some ⟨b2, 0, none⟩) m c2] 25)) w.heap.size m xs :=
  ⟨b0, c0, b1, c1, b2, c2, by simp, by simp, by simp, by simp, h.below ((Below.refl _ _).alloc (Nat.le_refl _) _)⟩
theorem Box3.at {w : World} {ab m : Nat} {xs : List It} (h : Box3 w ab m xs) {i : Nat} (hi : i < 3) : ∃ b c, w.cell? ⟨ab, i, none⟩ = some (.slice (some ⟨b, 0, none⟩) m c) ∧ ItemsR w b 0 m xs := by
  obtain ⟨b0, c0, b1, c1, b2, c2, h0, h1, h2, h3, h4⟩ := h
  rcases (by omega : i = 0 ∨ i = 1 ∨ i = 2) with rfl | rfl | rfl
  · exact ⟨b0, c0, h1, h4.1⟩
  · exact ⟨b1, c1, h2, h4.2.1⟩
  · exact ⟨b2, c2, h3, h4.2.2⟩
theorem below_drewN {B : Nat} {w w' : World} (h : Below B w w') (q : Nat) : Below B w (w'.drewN q) := ⟨h.os, h.tape, h.output, h.size, h.block⟩
theorem below_drew {w w' : World} (h : Below w.drew.heap.size w.drew w') : Below w.heap.size w w' := ⟨h.os, h.tape, h.output, h.size, h.block⟩

theorem below_d (w : World) : Below w.heap.size w w.drew := ⟨rfl, rfl, rfl, Nat.le_refl _, fun _ _ => rfl⟩
theorem below_da (w : World) (o : Obj) : Below w.heap.size w (w.drew.alloc o) := (below_d w).alloc (Nat.le_refl _) o
theorem below_a (w : World) (o : Obj) : Below w.heap.size w (w.alloc o) := (Below.refl _ _).alloc (Nat.le_refl _) o
/-- Three empty slices lie in block ab, for a store. -/
def Z3 (w : World) (ab : Nat) : Prop := w.cell? ⟨ab, 0, none⟩ = some (.slice none 0 0) ∧ w.cell? ⟨ab, 1, none⟩ = some (.slice none 0 0) ∧ w.cell? ⟨ab, 2, none⟩ = some (.slice none 0 0) ∧ w.frozen? ⟨ab, 0, none⟩ = false ∧ w.frozen? ⟨ab, 1, none⟩ = false ∧ w.frozen? ⟨ab, 2, none⟩ = false ∧ ab < w.heap.size
theorem Z3.below {w w' : World} {ab : Nat} (h : Z3 w ab) (hb : Below w.heap.size w w') : Z3 w' ab := by
  obtain ⟨h0, h1, h2, f0, f1, f2, hs⟩ := h
  have fz : ∀ q, w'.frozen? ⟨ab, q, none⟩ = w.frozen? ⟨ab, q, none⟩ := fun q => World.frozen?_of_block (hb.block ab hs)
  exact ⟨(hb.cell (p := ⟨ab, 0, none⟩) hs).trans h0, (hb.cell (p := ⟨ab, 1, none⟩) hs).trans h1, (hb.cell (p := ⟨ab, 2, none⟩) hs).trans h2, (fz 0).trans f0, (fz 1).trans f1, (fz 2).trans f2, Nat.lt_of_lt_of_le hs hb.size⟩
theorem Z3.made (w : World) : Z3 (w.alloc (.cells #[.slice none 0 0, .slice none 0 0, .slice none 0 0] 25)) w.heap.size := by
  refine ⟨?_, ?_, ?_, ?_, ?_, ?_, ?_⟩ <;> simp
theorem z3 {w w' : World} (h : Below (w.alloc (.cells #[.slice none 0 0, .slice none 0 0, .slice none 0 0] 25)).heap.size (w.alloc (.cells #[.slice none 0 0, .slice none 0 0, .slice none 0 0] 25)) w') : Z3 w' w.heap.size := (Z3.made w).below h
theorem z3d {w w' : World} (h : Below (w.drew.alloc (.cells #[.slice none 0 0, .slice none 0 0, .slice none 0 0] 25)).heap.size (w.drew.alloc (.cells #[.slice none 0 0, .slice none 0 0, .slice none 0 0] 25)) w') : Z3 w' w.heap.size := (Z3.made w.drew).below h
/-- The three slices stored into a box that was laid before. -/
theorem Box3.stored {w : World} {ab b0 c0 b1 c1 b2 c2 m : Nat} {xs : List It} (h : Rds w b0 b1 b2 m xs) (hz : Z3 w ab) :
    Box3 (((w.setCell ⟨ab, 0, none⟩ (.slice (some ⟨b0, 0, none⟩) m c0)).setCell ⟨ab, 1, none⟩ (.slice (some ⟨b1, 0, none⟩) m c1)).setCell ⟨ab, 2, none⟩ (.slice (some ⟨b2, 0, none⟩) m c2)) ab m xs := by
  obtain ⟨t1, t2, t3⟩ := three_cells w ab (.slice (some ⟨b0, 0, none⟩) m c0) (.slice (some ⟨b1, 0, none⟩) m c1) (.slice (some ⟨b2, 0, none⟩) m c2) _ _ _ hz.1 hz.2.1 hz.2.2.1
  have hne : ∀ b, ItemsR w b 0 m xs → 0 < m → b ≠ ab := fun b hi hm e => by
    have h1 := (hi.2.2 0 hm).1
    rw [e, show (0 : Nat) + 0 * 2 = 0 from rfl, hz.1] at h1
    cases h1
  refine ⟨b0, c0, b1, c1, b2, c2, ?_, t1, t2, t3, ⟨((h.1.set (hne _ h.1)).set (hne _ h.1)).set (hne _ h.1), ((h.2.1.set (hne _ h.2.1)).set (hne _ h.2.1)).set (hne _ h.2.1), ((h.2.2.set (hne _ h.2.2)).set (hne _ h.2.2)).set (hne _ h.2.2)⟩⟩
  have := hz.2.2.2.2.2.2
  simpa [World.setCell] using this
theorem below_stored {B : Nat} {a w : World} {ab : Nat} {x y z : Value} (h : Below B a w) (hb : B ≤ ab) : Below B a (((w.setCell ⟨ab, 0, none⟩ x).setCell ⟨ab, 1, none⟩ y).setCell ⟨ab, 2, none⟩ z) := ((h.setCell hb _).setCell hb _).setCell hb _

/-- One of three slices, at a step of a region that draws. -/
theorem step_index3 {ops : Array Oper} {op : Oper} {a : Act} {w : World} {K : Act → World → Prop} {Q : Exit → Act → World → Prop} {E : Prop} (hw : Region.wanted op (yielded ops a.tmps) = true) (s i : Operand) (ho : op.op = .index 25 s i) (x y z : Value) (hs : a.eval s = .agg #[x, y, z]) (k : Nat) (hk : k < 3) (hi : a.eval i = .int .i64 k)
    (h : K (a.put op.dst (pick3 x y z k)) w) : if Region.wanted op (yielded ops a.tmps) = true then Oper.wp Try.prog op a w K Q else E := by
  rw [if_pos hw]
  exact wp_index3 s i ho x y z hs k hk hi h

/-- One of three slices, as a region's own steps want it. -/
theorem index3_slice (b0 c0 b1 c1 b2 c2 m k : Nat) (hk : k < 3) : ∃ b c, (∀ w xs, Rds w b0 b1 b2 m xs → ItemsR w b 0 m xs) ∧
    ∀ w, (Instr.index 25 (.agg #[.slice (some ⟨b0, 0, none⟩) m c0, .slice (some ⟨b1, 0, none⟩) m c1, .slice (some ⟨b2, 0, none⟩) m c2]) (.int .i64 k)).run Try.prog w = .ok (.slice (some ⟨b, 0, none⟩) m c) w := by
  obtain ⟨b, c, h1, h2⟩ := pick3_slice b0 c0 b1 c1 b2 c2 m k
  exact ⟨b, c, h2, fun w => by rw [run_index3 _ _ _ k hk w, h1]⟩

theorem ranked_tab (A B : Option Addr) (n c m d : Nat) (zs ks : List Int) (w : World) (hz : IntsR w A n zs) (hk : IntsR w B m ks) (hn : n ≤ maxLen) (hnc : n ≤ c) (hm : m ≤ maxLen) (hmd : m ≤ d) (rs k : List Int) (hrs : zs.take 300 = rs) (hkk : rankKeys rs.length ks = k) :
    Calls Try.prog 14 #[.slice A n c, .slice B m d] w fun e w' => ∃ b1 c1 L b2 c2 M, e = .returned (.tuple #[.agg #[.int .i64 rs.length, .slice (some ⟨b1, 0, none⟩) L c1], .slice (some ⟨b2, 0, none⟩) M c2]) ∧
      M = k.length ∧ M ≤ 3000 ∧ IntsR w' (some ⟨b1, 0, none⟩) L (rankT rs) ∧ L ≤ maxLen ∧ IntsR w' (some ⟨b2, 0, none⟩) M k ∧ Below w.heap.size w w' := by
  subst hrs hkk
  refine (ranked_any A B n c m d zs ks w hz hk hn hnc hm hmd).mono ?_
  rintro e w1 ⟨b1, c1, L, b2, c2, M, rfl, hL, hM, hownT, hownK, hb1⟩
  have hz3 : (zs.take 300).length ≤ 300 := by rw [List.length_take]; omega
  have hle := rankKeys_le (zs.take 300).length ks
  refine ⟨b1, c1, L, b2, c2, M, rfl, hM, by omega, by rw [hL]; exact hownT.ints, ?_, by rw [hM]; exact hownK.ints, hb1⟩
  rw [hL, rankT_length]; have := Nat.mul_le_mul hz3 hz3; unfold maxLen; omega
theorem entries_tab (A : Option Addr) (n c : Nat) (ks : List Int) (w : World) (hk : IntsR w A n ks) (hn : n ≤ 1000000) :
    Calls Try.prog 12 #[.slice A n c] w fun e w' => ∃ b' c', e = .returned (.slice (some ⟨b', 0, none⟩) n c') ∧ ItemsR w' b' 0 n (ents ks) ∧ w.heap.size ≤ b' ∧ n ≤ c' ∧ Below w.heap.size w w' := by
  refine (entries_any A n c ks w hk hn).mono ?_
  rintro e w1 ⟨b', c', rfl, hown, hb⟩
  have hl : (ents ks).length = n := by rw [ents_length]; exact hk.1
  have hi := hown.items
  rw [hl] at hi
  refine ⟨b', c', rfl, hi, hown.lt.1, ?_, hb⟩
  rcases hown.2 with ⟨e, _⟩ | ⟨g, cap, cur, e, h3, r⟩
  · injection e with e; cases e
  · injection e with e1 e2 e3; have := r.1; omega
end Go.Proofs.Ytdpomoengbpcaaa
