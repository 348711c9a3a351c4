/- Walks: laws.apart. -/
import Derived.Test.YtdpomoengbpcaaaHelpG
import Derived.Deep.RegionLaw
namespace Go.Proofs.Ytdpomoengbpcaaa
open Go.RowKit Go.Sort Go.Lib

/-- The table whose number of a and b is g of their ranks. -/
def tabT (g : Int → Int → Int) (zs : List Int) : List Int := zs.flatMap fun x => zs.map (g x)
theorem tabT_len (g : Int → Int → Int) (zs : List Int) : ∀ (l : List Int), (l.flatMap fun x => zs.map (g x)).length = l.length * zs.length
  | [] => by simp
  | x :: r => by rw [List.flatMap_cons, List.length_append, List.length_map, tabT_len g zs r, List.length_cons, Nat.add_mul, Nat.one_mul, Nat.add_comm]
theorem tabT_length (g : Int → Int → Int) (zs : List Int) : (tabT g zs).length = zs.length * zs.length := tabT_len g zs zs
theorem tabT_at (g : Int → Int → Int) (zs : List Int) (a b : Nat) (ha : a < zs.length) (hb : b < zs.length) : (tabT g zs).getD (a * zs.length + b) 0 = g (zs.getD a 0) (zs.getD b 0) := by
  unfold tabT
  have key : ∀ (l : List Int) (a : Nat), a < l.length → (l.flatMap fun x => zs.map (g x))[a * zs.length + b]? = some (g (l.getD a 0) (zs.getD b 0)) := by
    intro l
    induction l with
    | nil => intro a h; simp at h
    | cons x r ih =>
      intro a h
      rw [List.flatMap_cons]
      cases a with
      | zero =>
        rw [Nat.zero_mul, Nat.zero_add, List.getElem?_append_left (by rw [List.length_map]; exact hb)]
        simp [List.getElem?_eq_getElem hb, List.getD_eq_getElem?_getD]
      | succ a =>
        rw [List.getElem?_append_right (by rw [List.length_map, Nat.add_mul]; omega), List.length_map, show (a + 1) * zs.length + b - zs.length = a * zs.length + b from by rw [Nat.add_mul]; omega, ih a (by simpa using h)]
        simp
  rw [List.getD_eq_getElem?_getD, key zs a ha]; rfl

/-- An append of one number at a step of a region that draws; the row may be nil. -/
theorem step_appN {ops : Array Oper} {op : Oper} {a : Act} {w : World} {K : Act → World → Prop} {Q : Exit → Act → World → Prop} {E : Prop} (hgd : op.guard = none) (s x : Operand)
    (ho : op.op = .call { callee := .builtin .append, args := #[s, x], argTypes := #[22, 22] })
    (base c n : Nat) (A : Option Addr) (xs : List Int) (hs : a.eval s = .slice A n c) (hown : Hid (w.ownsRow base 3 1 (.slice A n c) n (xs.map (Value.int .i64))))
    (b2 d : Nat) (y : Int) (hx : a.eval x = .slice (some ⟨b2, 0, none⟩) 1 d) (hr : Hid (IntsR w (some ⟨b2, 0, none⟩) 1 [y])) (hlen : n + 1 ≤ 17592186044416) (hbase : base ≤ w.heap.size)
    (h : ∀ b' c' w', Hid (w'.ownsRow base 3 1 (.slice (some ⟨b', 0, none⟩) (n + 1) c') (n + 1) ((xs ++ [y]).map (Value.int .i64))) → Hid (w.grownBy w' (Value.slice A n c).ownBlock) → K (a.put op.dst (.slice (some ⟨b', 0, none⟩) (n + 1) c')) w') :
    if Region.wanted op (yielded ops a.tmps) = true then Oper.wp Try.prog op a w K Q else E := by
  have hw : Region.wanted op (yielded ops a.tmps) = true := by simp [Region.wanted, hgd]
  rw [if_pos hw]
  obtain ⟨i0, hi, hz0, hz1, hz2⟩ := info_parts info_int
  have hr' := hr.out
  refine wp_append_own w s x 22 ho base 3 i0 _ 1 8 Try.underlying22 hi hz0 hz1 hz2 rfl (by decide) _ n (xs.map (Value.int .i64)) hs hown.out ⟨b2, 0, none⟩ 1 d ([y].map (Value.int .i64)) hx rfl hr'.news (ints_one [y]) (by unfold maxLen; omega) (by omega) hbase ?_
  intro v' w' h1 h2 h3
  rw [← List.map_append] at h1
  have hv : v' ≠ .slice none 0 0 := fun e => by have := (h3.1 e).2; omega
  rcases h1.2 with ⟨e, _⟩ | ⟨g', cap, cur, rfl, r⟩
  · exact absurd e hv
  · exact h g' cap w' h1 h2

/-- The world of apart: the result's box rb, the table's box rb + 1, whose numbers are the first q of T. -/
structure ApR (w : World) (N q : Nat) (T : List Int) (W : World) : Prop where
  c0 : W.cell? ⟨w.heap.size + 1, 0, none⟩ = some (.int .i64 N)
  c1 : ∃ CA cc, W.cell? ⟨w.heap.size + 1, 1, none⟩ = some (.slice CA q cc) ∧ W.ownsRow (w.heap.size + 2) 3 1 (.slice CA q cc) q ((T.take q).map (Value.int .i64))
  f1 : W.frozen? ⟨w.heap.size + 1, 1, none⟩ = false
  r0 : W.cell? ⟨w.heap.size, 0, none⟩ = some (.int .i64 0) ∧ W.cell? ⟨w.heap.size, 1, none⟩ = some (.slice none 0 0) ∧ W.frozen? ⟨w.heap.size, 0, none⟩ = false ∧ W.frozen? ⟨w.heap.size, 1, none⟩ = false
  sz : w.heap.size + 2 ≤ W.heap.size
  below : Below w.heap.size w W
theorem ApR.step {w W W' : World} {N q b' c' : Nat} {T : List Int} (h : ApR w N q T W) {CA : Option Addr} {cc : Nat} (hown : W.ownsRow (w.heap.size + 2) 3 1 (.slice CA q cc) q ((T.take q).map (Value.int .i64)))
    (o : Obj) (hg : (W.drew.alloc o).grownBy W' (Value.slice CA q cc).ownBlock) (ho : W'.ownsRow (w.heap.size + 2) 3 1 (.slice (some ⟨b', 0, none⟩) (q + 1) c') (q + 1) ((T.take (q + 1)).map (Value.int .i64))) (c1 : W.cell? ⟨w.heap.size + 1, 1, none⟩ = some (.slice CA q cc)) :
    W'.cell? ⟨w.heap.size + 1, 1, none⟩ = some (.slice CA q cc) ∧ W'.frozen? ⟨w.heap.size + 1, 1, none⟩ = false ∧ Below w.heap.size w W' ∧ ApR w N (q + 1) T (W'.setCell ⟨w.heap.size + 1, 1, none⟩ (.slice (some ⟨b', 0, none⟩) (q + 1) c')) := by
  have hsz := h.sz
  have hrow : ∀ k, (Value.slice CA q cc).ownBlock = some k → w.heap.size + 2 ≤ k := fun k hk => (hown.lt k hk).1
  have blk : ∀ k, k < w.heap.size + 2 → W'.heap[k]? = W.heap[k]? := fun k hk => by
    rw [hg.block k (by rw [World.size_alloc]; show k < W.heap.size + 1; omega) (fun e => by have := hrow k e.symm; omega)]
    exact Below.heap_alloc W.drew o k (by show k < W.heap.size; omega)
  have cell : ∀ b q', b < w.heap.size + 2 → W'.cell? ⟨b, q', none⟩ = W.cell? ⟨b, q', none⟩ := fun b q' hb => World.cell?_of_block (w := W) (blk b hb)
  have froz : ∀ b q', b < w.heap.size + 2 → W'.frozen? ⟨b, q', none⟩ = W.frozen? ⟨b, q', none⟩ := fun b q' hb => World.frozen?_of_block (w := W) (blk b hb)
  have e1 := (cell (w.heap.size + 1) 1 (by omega)).trans c1
  have hW2 : W.heap.size + 1 ≤ W'.heap.size := by have := hg.size; rw [World.size_alloc] at this; have h2 : W.drew.heap.size = W.heap.size := rfl; omega
  have hW' : w.heap.size + 2 ≤ W'.heap.size := by omega
  have other : ∀ b q', (b ≠ w.heap.size + 1 ∨ q' ≠ 1) → (W'.setCell ⟨w.heap.size + 1, 1, none⟩ (.slice (some ⟨b', 0, none⟩) (q + 1) c')).cell? ⟨b, q', none⟩ = W'.cell? ⟨b, q', none⟩ := fun b q' hne =>
    World.cell?_setCell_other _ _ _ _ (fun e => by injection e with x1 x2; rcases hne with h | h; exact h x1.symm; exact h x2.symm)
  have hB : Below w.heap.size w W' := h.below.trans ⟨hg.os, hg.tape, hg.output, by omega, fun k hk => blk k (by omega)⟩
  refine ⟨e1, (froz _ _ (by omega)).trans h.f1, hB, ?_, ⟨_, _, World.cell?_setCell_same' _ _ _ (by rw [e1]; rfl), ownsRow_setCell_below ho (by show w.heap.size + 1 < w.heap.size + 2; omega) _⟩, ?_, ⟨?_, ?_, ?_, ?_⟩, ?_, ?_⟩
  · rw [other _ _ (.inr (by omega)), cell _ _ (by omega)]; exact h.c0
  · rw [World.frozen?_setCell, froz _ _ (by omega)]; exact h.f1
  · rw [other _ _ (.inl (by omega)), cell _ _ (by omega)]; exact h.r0.1
  · rw [other _ _ (.inl (by omega)), cell _ _ (by omega)]; exact h.r0.2.1
  · rw [World.frozen?_setCell, froz _ _ (by omega)]; exact h.r0.2.2.1
  · rw [World.frozen?_setCell, froz _ _ (by omega)]; exact h.r0.2.2.2
  · simpa [World.setCell] using hW'
  · exact hB.setCell (by show w.heap.size ≤ w.heap.size + 1; omega) _

theorem info_table : ∃ i, Try.prog.info? 28 = some i ∧ i.size = 2 := by
  have h : (Try.prog.info? 28).map (fun i => i.size) = some 2 := by kernel_rfl
  cases e : Try.prog.info? 28 with
  | none => rw [e] at h; cases h
  | some i => rw [e] at h; exact ⟨i, rfl, by injection h⟩
theorem agg_table (w : World) : (isAgg 28).run Try.prog w = .ok true w := by kernel_rfl
theorem results_table {fn : Func} (h : fn.results = #[.cell 6 28]) (tmps : Array Value) (w : World) (b : Nat) (x y : Value) (hp : tmps.getD 6 undef = .pointer (some ⟨b, 0, none⟩))
    (h0 : w.cell? ⟨b, 0, none⟩ = some x) (h1 : w.cell? ⟨b, 1, none⟩ = some y) : (results fn tmps).run Try.prog w = .ok (.agg #[x, y]) w := by
  have hp' : tmps[6]?.getD undef = .pointer (some ⟨b, 0, none⟩) := by simpa using hp
  obtain ⟨i, hi, hs⟩ := info_table
  have hl := rl_loadVar_cells (P := Try.prog) 28 i hi agg_table b 0 [x, y] (by rw [hs]; rfl) w (fun k v hv => by
    match k, hv with
    | 0, hv => simp at hv; rw [← hv]; exact h0
    | 1, hv => simp at hv; rw [← hv]; exact h1
    | k + 2, hv => simp at hv)
  simp [results, h, hp', asAddr, hl]

set_option maxHeartbeats 2000000 in
set_option maxRecDepth 100000 in
theorem apart_any (A : Option Addr) (n c N : Nat) (zs rs : List Int) (tm : Int) (w : World) (hz : IntsR w A n zs) (hrs : zs.take N = rs) (hN : N ≤ n) (hN3 : N ≤ 300) (hb : ∀ i, i < N → -1000 < rs.getD i 0 ∧ rs.getD i 0 < 1000) (h1 : 1 ≤ tm) (h2 : tm ≤ 1000) :
    Calls Try.prog 20 #[.slice A n c, .int .i64 N, .int .i64 tm] w fun e w' => ∃ B L cc, e = .returned (.agg #[.int .i64 N, .slice B L cc]) ∧ IntsR w' B L (tabT (fun x y => (x - y) * tm) rs) ∧ L ≤ maxLen ∧ Below w.heap.size w w' := by
  have hrl : rs.length = N := by rw [← hrs, List.length_take, hz.1]; omega
  have HZ := Lib.hid (show IntsR w A N rs from by rw [← hrs]; exact hz.cut N hN)
  have HBD := Lib.hid hb
  have HAT := Lib.hid (fun a b ha hb => by have := tabT_at (fun x y => (x - y) * tm) rs a b (show a < rs.length by rw [hrl]; exact ha) (show b < rs.length by rw [hrl]; exact hb); rw [hrl] at this; exact this)
  have HTL := Lib.hid (show (tabT (fun x y => (x - y) * tm) rs).length = N * N by rw [tabT_length, hrl])
  have hNN : N * N ≤ 300 * 300 := Nat.mul_le_mul hN3 hN3
  generalize tabT (fun x y => (x - y) * tm) rs = T at HAT HTL ⊢
  have HA0 := Lib.hid (show ApR w N 0 T ((w.alloc (.cells #[.int .i64 0, .slice none 0 0] 28)).alloc (.cells #[.int .i64 N, .slice none 0 0] 28)) from by
    have hs : (w.alloc (.cells #[.int .i64 0, .slice none 0 0] 28)).heap.size = w.heap.size + 1 := by simp
    refine ⟨by rw [← hs]; simp, ⟨none, 0, by rw [← hs]; simp, by rw [List.take_zero]; exact World.ownsRow_nil _ _ _ _⟩, by rw [← hs]; simp, ⟨by simp, by simp, by simp, by simp⟩, by simp, (below_a w _).alloc (by simp) _⟩)
  clear hz hrs hb hrl
  go_enter Try.func20, Try.ntmps20
  go_wp2_with fail
  go_loopg [8] N (fun g vi wr => ∃ (i : Nat), vi = .int .i64 i ∧ i ≤ N ∧ N - i ≤ g ∧ Hid (ApR w N (i * N) T wr))
  case atStart => exact ⟨0, rfl, by omega, by omega, by rw [Nat.zero_mul]; exact HA0.out⟩
  case round =>
    obtain ⟨i, rfl, hiN, hg, HR⟩ := hrel
    by_cases hlt : i < N
    · have hltz : (i : Int) < (N : Int) := by omega
      go_wp2_with fail
      go_loopg [9] N (fun g vj wr => ∃ (j : Nat), vj = .int .i64 j ∧ j ≤ N ∧ N - j ≤ g ∧ Hid (ApR w N (i * N + j) T wr))
      case atStart => exact ⟨0, rfl, by omega, by omega, HR.out⟩
      case round =>
        obtain ⟨j, rfl, hjN, hg2, HR2⟩ := hrel
        by_cases hlt2 : j < N
        · have hltz2 : (j : Int) < (N : Int) := by omega
          obtain ⟨bz, oz, rfl, hbz, hcz⟩ := HZ.out.2 (by omega)
          have ci : wr.cell? ⟨bz, oz + i, none⟩ = some (.int .i64 (rs.getD i 0)) := (HR2.out.below.cell (p := ⟨bz, oz + i, none⟩) hbz).trans (hcz i hlt)
          have cj : wr.cell? ⟨bz, oz + j, none⟩ = some (.int .i64 (rs.getD j 0)) := (HR2.out.below.cell (p := ⟨bz, oz + j, none⟩) hbz).trans (hcz j hlt2)
          obtain ⟨bi1, bi2⟩ := HBD.out i hlt
          obtain ⟨bj1, bj2⟩ := HBD.out j hlt2
          have hat := HAT.out i j hlt hlt2
          obtain ⟨CA, cc, c1, hown⟩ := HR2.out.c1
          have hiq : i * N + j < N * N := by have := Nat.mul_le_mul_right N (show i + 1 ≤ N from hlt); rw [Nat.add_mul, Nat.one_mul] at this; omega
          have HTK := Lib.hid (show T.take (i * N + j + 1) = T.take (i * N + j) ++ [(rs.getD i 0 - rs.getD j 0) * tm] from by
            rw [List.take_succ_eq_append_getElem (by rw [HTL.out]; exact hiq)]
            rw [getD_at T 0 _ (by rw [HTL.out]; exact hiq)] at hat
            rw [hat])
          have wi := hcz i hlt
          have wj := hcz j hlt2
          generalize rs.getD i 0 = x at ci wi bi1 bi2 HTK hat
          generalize rs.getD j 0 = y at cj wj bj1 bj2 HTK hat
          clear wi wj
          have ne5 : bz ≠ w.heap.size + 1 := by omega
          have ne6 : w.heap.size + 1 ≠ bz := by omega
          clear hat hcz
          have hd1 : -2000 < x - y := by omega
          have hd2 : x - y < 2000 := by omega
          have hwd : IntKind.i64.wrap (x - y) = x - y := by rw [IntKind.wrap_i64]; omega
          have hm1 : -2000000 ≤ (x - y) * tm ∧ (x - y) * tm ≤ 2000000 := by
            generalize x - y = z at hd1 hd2
            have a1 : z * tm ≤ 2000 * tm := Int.mul_le_mul_of_nonneg_right (by omega) (by omega)
            have a2 : (-2000) * tm ≤ z * tm := Int.mul_le_mul_of_nonneg_right (by omega) (by omega)
            omega
          obtain ⟨hm1, hm2⟩ := hm1
          have hwm : IntKind.i64.wrap ((x - y) * tm) = (x - y) * tm := by rw [IntKind.wrap_i64]; omega
          have hin : (i : Int) < (n : Int) := by omega
          have hjn : (j : Int) < (n : Int) := by omega
          have hsz := HR2.out.sz
          have ne1 : ¬ w.heap.size + 1 = wr.heap.size := by omega
          have ne2 : ¬ bz = wr.heap.size := by omega
          have ne3 : bz < wr.heap.size := by omega
          have ne4 : w.heap.size + 1 < wr.heap.size := by omega
          have HOW := Lib.hid (show (wr.drew.alloc (.cells #[.int .i64 ((x - y) * tm)] 3)).ownsRow (w.heap.size + 2) 3 1 (.slice CA (i * N + j) cc) (i * N + j) ((T.take (i * N + j)).map (Value.int .i64)) from World.ownsRow.alloc (w := wr.drew) (World.ownsRow.kept (row := none) hown ⟨rfl, rfl, rfl, Nat.le_refl _, fun _ _ _ => rfl⟩ (by cases CA <;> simp [Value.ownBlock])) _)
          have HON := Lib.hid (show IntsR (wr.drew.alloc (.cells #[.int .i64 ((x - y) * tm)] 3)) (some ⟨wr.heap.size, 0, none⟩) 1 [(x - y) * tm] from IntsR.one wr.drew _)
          have KEY := Lib.hid (fun b' c' W' hg ho => HR2.out.step (b' := b') (c' := c') (W' := W') hown (.cells #[.int .i64 ((x - y) * tm)] 3) hg (by rw [HTK.out]; exact ho) c1)
          clear hown hd1 hd2 hm1 hm2 bi1 bi2 bj1 bj2
          go_upto_region 8 with fail
          go_region_law (refine step_appN rfl (.tmp 23) (.tmp 35) rfl (w.heap.size + 2) cc (i * N + j) CA _ rfl HOW.out wr.heap.size 1 ((x - y) * tm) rfl HON.out (by omega) (by show w.heap.size + 2 ≤ (wr.alloc _).heap.size; rw [World.size_alloc]; omega) ?_; intro b1 c1' w1 hown1 hgrow1; obtain ⟨k0, k1, hB1, hres⟩ := KEY.out b1 c1' w1 hgrow1.out hown1.out; have HRES := Lib.hid hres; clear hres hB1)
          all_goals
            go_wp2_with fail
            go_roundg (N - (j + 1))
            case measure => omega
            case rel => exact ⟨j + 1, by go_num, by omega, Nat.le_refl _, (show Hid _ from HRES.out)⟩
        · have hltz2 : ¬ (j : Int) < (N : Int) := by omega
          obtain rfl : j = N := by omega
          go_wp2_with fail
          go_roundg (j - (i + 1))
          case measure => omega
          case rel => exact ⟨i + 1, by go_num, by omega, Nat.le_refl _, (show Hid _ from by rw [Nat.add_mul, Nat.one_mul]; exact HR2.out)⟩
    · have hltz : ¬ (i : Int) < (N : Int) := by omega
      obtain rfl : i = N := by omega
      obtain ⟨CA, cc, c1, hown⟩ := HR.out.c1
      have c0 := HR.out.c0
      obtain ⟨r0, r1, g0, g1⟩ := HR.out.r0
      have HOW := Lib.hid hown
      clear hown
      have hB := HR.out.below
      have HB := Lib.hid hB
      have hown2 : ∀ x y, ((wr.setCell ⟨w.heap.size, 0, none⟩ x).setCell ⟨w.heap.size, 1, none⟩ y).ownsRow (w.heap.size + 2) 3 1 (.slice CA (i * i) cc) (i * i) (T.map (Value.int .i64)) := fun x y => by
        have h := HOW.out
        rw [List.take_of_length_le (by rw [HTL.out]; exact Nat.le_refl _)] at h
        exact ownsRow_setCell_below (ownsRow_setCell_below h (by show w.heap.size < w.heap.size + 2; omega) _) (by show w.heap.size < w.heap.size + 2; omega) _
      have HO2 := Lib.hid hown2
      have HCE := Lib.hid (show ∀ x y, ((wr.setCell ⟨w.heap.size, 0, none⟩ x).setCell ⟨w.heap.size, 1, none⟩ y).cell? ⟨w.heap.size, 0, none⟩ = some x ∧ ((wr.setCell ⟨w.heap.size, 0, none⟩ x).setCell ⟨w.heap.size, 1, none⟩ y).cell? ⟨w.heap.size, 1, none⟩ = some y from fun x y => by
        have n1 : ∀ (W : World) (v : Value) (a b : Nat), a ≠ b → (W.setCell ⟨w.heap.size, a, none⟩ v).cell? ⟨w.heap.size, b, none⟩ = W.cell? ⟨w.heap.size, b, none⟩ := fun W v a b h => World.cell?_setCell_other _ _ _ _ (fun e => by injection e with _ e2; exact h e2)
        refine ⟨?_, World.cell?_setCell_same' _ _ _ (by rw [n1 _ _ 0 1 (by omega), r1]; rfl)⟩
        rw [n1 _ _ 1 0 (by omega)]
        exact World.cell?_setCell_same' _ _ _ (by rw [r0]; rfl))
      clear hB hown2
      go_wp2_with fail
      (try simp only [Exit.inBlock, Exit.then])
      refine bodyPost_ret (results_table (by kernel_rfl) _ _ w.heap.size (.int .i64 i) (.slice CA (i * i) cc) rfl (HCE.out _ _).1 (HCE.out _ _).2) rfl ?_
      have h := HO2.out (.int .i64 i) (.slice CA (i * i) cc)
      have hTl := HTL.out
      have hints : IntsR ((wr.setCell ⟨w.heap.size, 0, none⟩ (.int .i64 i)).setCell ⟨w.heap.size, 1, none⟩ (.slice CA (i * i) cc)) CA (i * i) T := by
        rcases h.2 with ⟨e, _⟩ | ⟨g, cap, cur, e, r⟩
        · injection e with e1 e2 e3
          exact ⟨hTl, fun h0 => by omega⟩
        · injection e with e1 e2 e3
          subst e1
          have ho : OwnZ ((wr.setCell ⟨w.heap.size, 0, none⟩ (.int .i64 i)).setCell ⟨w.heap.size, 1, none⟩ (.slice (some ⟨g, 0, none⟩) (i * i) cc)) (w.heap.size + 2) g cc T := by unfold OwnZ; rw [hTl]; exact h
          have := ho.ints
          rw [hTl] at this
          exact this
      have hle : i * i ≤ maxLen := by unfold maxLen; omega
      have hbl := (HB.out.setCell (p := ⟨w.heap.size, 0, none⟩) (Nat.le_refl _) (.int .i64 i)).setCell (p := ⟨w.heap.size, 1, none⟩) (Nat.le_refl _) (.slice CA (i * i) cc)
      first
        | exact ⟨CA, i * i, cc, rfl, hints, hle, hbl⟩
        | exact ⟨CA, i * i, ⟨cc, rfl⟩, hints, hle, hbl⟩
end Go.Proofs.Ytdpomoengbpcaaa
