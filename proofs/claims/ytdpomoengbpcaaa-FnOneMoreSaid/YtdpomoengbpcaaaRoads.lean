/- Walks: laws.roads: each of its three lists is the one stable arrangement. -/
import Derived.Test.YtdpomoengbpcaaaFncF
import Derived.Test.YtdpomoengbpcaaaSame
import Derived.Test.YtdpomoengbpcaaaHelpF
import Derived.Test.YtdpomoengbpcaaaRd
import Derived.Deep.RegionHeld3
namespace Go.Proofs.Ytdpomoengbpcaaa
open Go.RowKit Go.Sort Go.Lib

/-- The three slices read as the entries xs. -/
def Rds (w : World) (b0 b1 b2 m : Nat) (xs : List It) : Prop := ItemsR w b0 0 m xs ∧ ItemsR w b1 0 m xs ∧ ItemsR w b2 0 m xs
theorem Rds.below {w w' : World} {b0 b1 b2 m : Nat} {xs : List It} (h : Rds w b0 b1 b2 m xs) (hb : Below w.heap.size w w') : Rds w' b0 b1 b2 m xs := ⟨h.1.below hb, h.2.1.below hb, h.2.2.below hb⟩

theorem ItemsR.set {w : World} {b n k q : Nat} {xs : List It} {v : Value} (h : ItemsR w b 0 n xs) (hne : 0 < n → b ≠ k) : ItemsR (w.setCell ⟨k, q, none⟩ v) b 0 n xs := by
  refine ⟨h.1, by have := h.2.1; simpa [World.setCell] using this, fun i hi => ?_⟩
  have hb := hne (by omega)
  have := h.2.2 i hi
  exact ⟨(World.cell?_setCell_other _ _ _ _ (fun e => by injection e with e1; exact hb e1.symm)).trans this.1, (World.cell?_setCell_other _ _ _ _ (fun e => by injection e with e1; exact hb e1.symm)).trans this.2⟩

theorem info_three : ∃ i, Try.prog.info? 25 = some i ∧ i.size = 3 := by
  have h : (Try.prog.info? 25).map (fun i => i.size) = some 3 := by kernel_rfl
  cases e : Try.prog.info? 25 with
  | none => rw [e] at h; cases h
  | some i => rw [e] at h; exact ⟨i, rfl, by injection h⟩
theorem agg_three (w : World) : (isAgg 25).run Try.prog w = .ok true w := by kernel_rfl
/-- What is handed back out of a cell of three slices. -/
theorem results_three {fn : Func} (h : fn.results = #[.cell 4 25]) (tmps : Array Value) (w : World) (b : Nat) (x y z : Value) (hp : tmps.getD 4 undef = .pointer (some ⟨b, 0, none⟩))
    (h0 : w.cell? ⟨b, 0, none⟩ = some x) (h1 : w.cell? ⟨b, 1, none⟩ = some y) (h2 : w.cell? ⟨b, 2, none⟩ = some z) : (results fn tmps).run Try.prog w = .ok (.agg #[x, y, z]) w := by
  have hp' : tmps[4]?.getD undef = .pointer (some ⟨b, 0, none⟩) := by simpa using hp
  obtain ⟨i, hi, hs⟩ := info_three
  have hl := rl_loadVar_cells (P := Try.prog) 25 i hi agg_three b 0 [x, y, z] (by rw [hs]; rfl) w (fun k v hv => by
    match k, hv with
    | 0, hv => simp at hv; rw [← hv]; exact h0
    | 1, hv => simp at hv; rw [← hv]; exact h1
    | 2, hv => simp at hv; rw [← hv]; exact h2
    | k + 3, hv => simp at hv)
  simp [results, h, hp', asAddr, hl]

theorem three_cells (w : World) (b : Nat) (x y z u0 u1 u2 : Value) (p0 : w.cell? ⟨b, 0, none⟩ = some u0) (p1 : w.cell? ⟨b, 1, none⟩ = some u1) (p2 : w.cell? ⟨b, 2, none⟩ = some u2) :
    (((w.setCell ⟨b, 0, none⟩ x).setCell ⟨b, 1, none⟩ y).setCell ⟨b, 2, none⟩ z).cell? ⟨b, 0, none⟩ = some x ∧ (((w.setCell ⟨b, 0, none⟩ x).setCell ⟨b, 1, none⟩ y).setCell ⟨b, 2, none⟩ z).cell? ⟨b, 1, none⟩ = some y ∧ (((w.setCell ⟨b, 0, none⟩ x).setCell ⟨b, 1, none⟩ y).setCell ⟨b, 2, none⟩ z).cell? ⟨b, 2, none⟩ = some z := by
  have ne : ∀ (W : World) (v : Value) (i j : Nat), i ≠ j → (W.setCell ⟨b, i, none⟩ v).cell? ⟨b, j, none⟩ = W.cell? ⟨b, j, none⟩ := fun W v i j h => World.cell?_setCell_other _ _ _ _ (fun e => by injection e with _ e2; exact h e2)
  refine ⟨?_, ?_, ?_⟩
  · rw [ne _ _ 2 0 (by omega), ne _ _ 1 0 (by omega)]
    exact World.cell?_setCell_same' _ _ _ (by rw [p0]; rfl)
  · rw [ne _ _ 2 1 (by omega)]
    exact World.cell?_setCell_same' _ _ _ (by rw [ne _ _ 0 1 (by omega), p1]; rfl)
  · exact World.cell?_setCell_same' _ _ _ (by rw [ne _ _ 1 2 (by omega), ne _ _ 0 2 (by omega), p2]; rfl)

set_option maxHeartbeats 2000000 in
set_option maxRecDepth 100000 in
theorem roads_cap (N : Int) (A : Option Addr) (n c : Nat) (zs : List Int) (b o m d : Nat) (xs : List It) (w : World) (hz : IntsR w A n zs) (hn : n ≤ maxLen) (hx : ItemsR w b o m xs) (hm : m ≤ 1000000) :
    Calls Try.prog 11 #[.agg #[.int .i64 N, .slice A n c], .slice (some ⟨b, o, none⟩) m d] w fun e w' =>
      ∃ b0 c0 b1 c1 b2 c2, e = .returned (.agg #[.slice (some ⟨b0, 0, none⟩) m c0, .slice (some ⟨b1, 0, none⟩) m c1, .slice (some ⟨b2, 0, none⟩) m c2]) ∧ Rds w' b0 b1 b2 m (sorted (ltT N zs) xs) ∧ (m ≤ c0 ∧ m ≤ c1 ∧ m ≤ c2) ∧ Below w.heap.size w w' := by
  have x0 : (w.alloc (.cells #[.int .i64 N, .slice A n c] 28)).cell? ⟨w.heap.size, 0, none⟩ = some (.int .i64 N) := by simp
  have x1 : (w.alloc (.cells #[.int .i64 N, .slice A n c] 28)).cell? ⟨w.heap.size, 1, none⟩ = some (.slice A n c) := by simp
  have HW := Lib.hid (show Below w.heap.size w ((w.alloc (.cells #[.int .i64 N, .slice A n c] 28)).alloc (.cells #[.slice none 0 0, .slice none 0 0, .slice none 0 0] 25)) from ((Below.refl _ _).alloc (Nat.le_refl _) _).alloc (by simp) _)
  have HC := Lib.hid (Stable_cap N A n c zs b o m d xs _ (hz.below HW.out) hn (hx.below HW.out) hm)
  have HZ := Lib.hid (fun W (hW : Below w.heap.size w W) => And.intro (hz.below hW) (hx.below hW))
  have HN := Lib.hid hn
  clear hx hz hn
  go_enter Try.func11, Try.ntmps11
  go_wp2_with fail
  refine HC.out.mono ?_
  rintro e w2 ⟨b2, c2, g2, L2, d2, rfl, hit2, hcs2, hL2, hcap2, hb2⟩
  have HP2 := Lib.hid hcap2
  clear hcap2
  have hsz0 : (w.alloc (.cells #[.int .i64 N, .slice A n c] 28)).heap.size = w.heap.size + 1 := by simp
  have hsz1 : ((w.alloc (.cells #[.int .i64 N, .slice A n c] 28)).alloc (.cells #[.slice none 0 0, .slice none 0 0, .slice none 0 0] 25)).heap.size = w.heap.size + 2 := by simp
  have hc2 : ∀ b q, b < w.heap.size + 2 → w2.cell? ⟨b, q, none⟩ = ((w.alloc (.cells #[.int .i64 N, .slice A n c] 28)).alloc (.cells #[.slice none 0 0, .slice none 0 0, .slice none 0 0] 25)).cell? ⟨b, q, none⟩ := fun b q h => hb2.cell (p := ⟨b, q, none⟩) (by rw [hsz1]; exact h)
  have hf2 : ∀ b q, b < w.heap.size + 2 → w2.frozen? ⟨b, q, none⟩ = ((w.alloc (.cells #[.int .i64 N, .slice A n c] 28)).alloc (.cells #[.slice none 0 0, .slice none 0 0, .slice none 0 0] 25)).frozen? ⟨b, q, none⟩ := fun b q h => World.frozen?_of_block (hb2.block b (by rw [hsz1]; exact h))
  have y0 : w2.cell? ⟨w.heap.size, 0, none⟩ = some (.int .i64 N) := (hc2 _ _ (by omega)).trans (by simp)
  have y1 : w2.cell? ⟨w.heap.size, 1, none⟩ = some (.slice A n c) := (hc2 _ _ (by omega)).trans (by simp)
  have hr : (w2.cell? ⟨w.heap.size + 1, 0, none⟩ = some (.slice none 0 0) ∧ w2.cell? ⟨w.heap.size + 1, 1, none⟩ = some (.slice none 0 0) ∧ w2.cell? ⟨w.heap.size + 1, 2, none⟩ = some (.slice none 0 0)) ∧ w2.frozen? ⟨w.heap.size + 1, 0, none⟩ = false ∧ w2.frozen? ⟨w.heap.size + 1, 1, none⟩ = false ∧ w2.frozen? ⟨w.heap.size + 1, 2, none⟩ = false :=
    ⟨⟨(hc2 _ _ (by omega)).trans (by rw [← hsz0]; simp), (hc2 _ _ (by omega)).trans (by rw [← hsz0]; simp), (hc2 _ _ (by omega)).trans (by rw [← hsz0]; simp)⟩, (hf2 _ _ (by omega)).trans (by rw [← hsz0]; simp), (hf2 _ _ (by omega)).trans (by rw [← hsz0]; simp), (hf2 _ _ (by omega)).trans (by rw [← hsz0]; simp)⟩
  have hs2 : w.heap.size + 2 ≤ w2.heap.size := by have := hb2.size; rw [hsz1] at this; exact this
  have HR := Lib.hid hr
  have hBw := HW.out.trans (hb2.mono HW.out.size)
  have HD := Lib.hid (show Below w.heap.size w w2.drew from ⟨hBw.os, hBw.tape, hBw.output, hBw.size, hBw.block⟩)
  have H2 := Lib.hid (And.intro hit2 (And.intro (HW.out.trans (hb2.mono HW.out.size)) hs2))
  clear hit2 hcs2 hL2 hb2 hc2 hf2 hsz0 hsz1 hr hs2 hBw HC HW x0 x1
  have TR := Lib.hid (fun (W W' : World) (hs : w.heap.size + 2 ≤ W.heap.size) (hb : Below W.heap.size W W') (y0 : W.cell? ⟨w.heap.size, 0, none⟩ = some (.int .i64 N)) (y1 : W.cell? ⟨w.heap.size, 1, none⟩ = some (.slice A n c)) =>
    show w.heap.size + 2 ≤ W'.heap.size ∧ W'.cell? ⟨w.heap.size, 0, none⟩ = some (.int .i64 N) ∧ W'.cell? ⟨w.heap.size, 1, none⟩ = some (.slice A n c) from
    ⟨Nat.le_trans hs hb.size, (hb.cell (p := ⟨w.heap.size, 0, none⟩) (by show w.heap.size < _; omega)).trans y0, (hb.cell (p := ⟨w.heap.size, 1, none⟩) (by show w.heap.size < _; omega)).trans y1⟩)
  have TS := Lib.hid (fun (W W' : World) (hs : w.heap.size + 2 ≤ W.heap.size) (hb : Below W.heap.size W W') (q : Nat) =>
    show W'.cell? ⟨w.heap.size + 1, q, none⟩ = W.cell? ⟨w.heap.size + 1, q, none⟩ ∧ W'.frozen? ⟨w.heap.size + 1, q, none⟩ = W.frozen? ⟨w.heap.size + 1, q, none⟩ from
    ⟨hb.cell (p := ⟨w.heap.size + 1, q, none⟩) (by show w.heap.size + 1 < _; omega), World.frozen?_of_block (hb.block (w.heap.size + 1) (by omega))⟩)
  go_wp2_with fail
  have HS := Lib.hid H2.out.2.2
  have HE := Lib.hid (show w.heap.size = w.heap.size from rfl)
  generalize htb : w.heap.size = tb at y0 y1 HR TR TS HS ⊢
  have HTB := Lib.hid htb
  clear htb HE
  go_region_held3 (fun w' => w'.cell? ⟨tb, 0, none⟩ = some (.int .i64 N) ∧ w'.cell? ⟨tb, 1, none⟩ = some (.slice A n c)) (go_keep)
    (first
      | (go_at_call 24; refine (StableFunc_cap N A n c zs b o m d xs _ (HZ.out _ (by exact HD.out)).1 HN.out (HZ.out _ (by exact HD.out)).2 hm).mono ?_; rintro e w3 ⟨b3, c3, rfl, hb3, hit3, hcap3, hbl3⟩; have HP3 := Lib.hid hcap3; clear hcap3; have H3 := Lib.hid (And.intro hit3 (show Below w2.heap.size w2 w3 from ⟨hbl3.os, hbl3.tape, hbl3.output, hbl3.size, hbl3.block⟩)); have HL3 := Lib.hid (show w2.heap.size ≤ b3 from hb3); obtain ⟨s3, k0, k1⟩ := TR.out w2 w3 HS.out H3.out.2 y0 y1; have HB3 := Lib.hid (H2.out.2.1.trans (H3.out.2.mono H2.out.2.1.size)); clear hb3 hit3 hbl3)
      | (go_at_call 25; refine (SliceStable_cap N A n c zs b o m d xs _ (HZ.out _ (by exact HB3.out)).1 HN.out (HZ.out _ (by exact HB3.out)).2 hm).mono ?_; rintro e w4 ⟨b4, c4, rfl, hb4, hit4, hcap4, hbl4⟩; have HP4 := Lib.hid hcap4; clear hcap4; have H4 := Lib.hid (And.intro hit4 hbl4); have HL4 := Lib.hid hb4; obtain ⟨s4, k2, k3⟩ := TR.out w3 w4 s3 hbl4 k0 k1; have HB4 := Lib.hid (HB3.out.trans (H4.out.2.mono HB3.out.size)); have hbb := H3.out.2.trans (hbl4.mono H3.out.2.size); have p0 := ((TS.out w2 w4 HS.out hbb 0).1).trans HR.out.1.1; have p1 := ((TS.out w2 w4 HS.out hbb 1).1).trans HR.out.1.2.1; have p2 := ((TS.out w2 w4 HS.out hbb 2).1).trans HR.out.1.2.2; have f0 := ((TS.out w2 w4 HS.out hbb 0).2).trans HR.out.2.1; have f1 := ((TS.out w2 w4 HS.out hbb 1).2).trans HR.out.2.2.1; have f2 := ((TS.out w2 w4 HS.out hbb 2).2).trans HR.out.2.2.2; clear hb4 hit4 hbl4 hbb))
  go_wp2_with fail
  (try simp only [Exit.inBlock, Exit.then])
  refine bodyPost_ret (results_three (by kernel_rfl) _ _ (tb + 1) (.slice (some ⟨b3, 0, none⟩) m c3) (.slice (some ⟨b4, 0, none⟩) m c4) (.slice (some ⟨b2, 0, none⟩) m c2) rfl ?_ ?_ ?_) rfl ?_
  · exact (three_cells _ _ _ _ _ _ _ _ p0 p1 p2).1
  · exact (three_cells _ _ _ _ _ _ _ _ p0 p1 p2).2.1
  · exact (three_cells _ _ _ _ _ _ _ _ p0 p1 p2).2.2
  have hs2 := HS.out
  have hl3 := HL3.out
  have hl4 := HL4.out
  have hsz := H3.out.2.size
  have hne2 : 0 < m → b2 ≠ tb + 1 := fun h e => by
    have h1 := (H2.out.1.2.2 0 h).1
    rw [e] at h1
    have h2 := HR.out.1.1
    rw [show (0 : Nat) + 0 * 2 = 0 from rfl] at h1
    rw [h1] at h2
    cases h2
  have hB4 := H4.out.2
  have hit2 := (H2.out.1.below H3.out.2).below hB4
  have hit3 := H3.out.1.below hB4
  have hit4 := H4.out.1
  have hBw := HB4.out
  have hwt := HTB.out
  refine ⟨b3, c3, b4, c4, b2, c2, rfl, ⟨((hit3.set (fun _ => by omega)).set (fun _ => by omega)).set (fun _ => by omega), ((hit4.set (fun _ => by omega)).set (fun _ => by omega)).set (fun _ => by omega), ((hit2.set hne2).set hne2).set hne2⟩, ⟨HP3.out, HP4.out, HP2.out⟩, ?_⟩
  exact ((hBw.setCell (by show w.heap.size ≤ tb + 1; omega) _).setCell (by show w.heap.size ≤ tb + 1; omega) _).setCell (by show w.heap.size ≤ tb + 1; omega) _

theorem roads_any (N : Int) (A : Option Addr) (n c : Nat) (zs : List Int) (b o m d : Nat) (xs : List It) (w : World) (hz : IntsR w A n zs) (hn : n ≤ maxLen) (hx : ItemsR w b o m xs) (hm : m ≤ 1000000) :
    Calls Try.prog 11 #[.agg #[.int .i64 N, .slice A n c], .slice (some ⟨b, o, none⟩) m d] w fun e w' =>
      ∃ b0 c0 b1 c1 b2 c2, e = .returned (.agg #[.slice (some ⟨b0, 0, none⟩) m c0, .slice (some ⟨b1, 0, none⟩) m c1, .slice (some ⟨b2, 0, none⟩) m c2]) ∧ Rds w' b0 b1 b2 m (sorted (ltT N zs) xs) ∧ Below w.heap.size w w' :=
  (roads_cap N A n c zs b o m d xs w hz hn hx hm).mono fun _ _ ⟨b0, c0, b1, c1, b2, c2, h1, h2, _, h4⟩ => ⟨b0, c0, b1, c1, b2, c2, h1, h2, h4⟩

/-- One of three slices. -/
def pick3 (x y z : Value) (k : Nat) : Value := if k = 0 then x else if k = 1 then y else z
theorem run_index3 (x y z : Value) (k : Nat) (hk : k < 3) (w : World) : (Instr.index 25 (.agg #[x, y, z]) (.int .i64 k)).run Try.prog w = .ok (pick3 x y z k) w := by
  rcases (by omega : k = 0 ∨ k = 1 ∨ k = 2) with rfl | rfl | rfl <;> kernel_rfl
theorem wp_index3 {op : Oper} {a : Act} {w : World} {K : Act → World → Prop} {Q : Exit → Act → World → Prop} (s i : Operand) (ho : op.op = .index 25 s i) (x y z : Value) (hs : a.eval s = .agg #[x, y, z]) (k : Nat) (hk : k < 3) (hi : a.eval i = .int .i64 k)
    (h : K (a.put op.dst (pick3 x y z k)) w) : op.wp Try.prog a w K Q := by
  unfold Oper.wp execOp
  simp only [ho, hs, hi, Sem.run_bind, Sem.run_pure, Result.andThen_ok, run_index3 x y z k hk]
  exact h
theorem wpList_index3 {ops : Array Oper} {rest : List Oper} {op : Oper} {a : Act} {w : World} {Q : Exit → Act → World → Prop} (hgd : op.guard = none) (s i : Operand) (ho : op.op = .index 25 s i) (x y z : Value) (hs : a.eval s = .agg #[x, y, z]) (k : Nat) (hk : k < 3) (hi : a.eval i = .int .i64 k)
    (h : wpList Try.prog ops Q rest (a.put op.dst (pick3 x y z k)) w) : wpList Try.prog ops Q (op :: rest) a w :=
  wpList_plain hgd fun _ hK => wp_index3 s i ho x y z hs k hk hi (hK _ _ h)
/-- Which of the three it is: its block and its capacity. -/
theorem pick3_slice (b0 c0 b1 c1 b2 c2 m k : Nat) : ∃ b c, pick3 (.slice (some ⟨b0, 0, none⟩) m c0) (.slice (some ⟨b1, 0, none⟩) m c1) (.slice (some ⟨b2, 0, none⟩) m c2) k = .slice (some ⟨b, 0, none⟩) m c ∧ ∀ w xs, Rds w b0 b1 b2 m xs → ItemsR w b 0 m xs := by
  unfold pick3
  split
  · exact ⟨b0, c0, rfl, fun _ _ h => h.1⟩
  · split
    · exact ⟨b1, c1, rfl, fun _ _ h => h.2.1⟩
    · exact ⟨b2, c2, rfl, fun _ _ h => h.2.2⟩
end Go.Proofs.Ytdpomoengbpcaaa
