/- Walks: sort.swapRange_func, rotate_func, insertionSort_func over two function values that are told by contracts: they do what swRange, rot and insSort do. -/
import Derived.Test.YtdpomoengbpcaaaIfcA
import Derived.Shelf.GgSortFunc.InsertionK
namespace Go.Proofs.Ytdpomoengbpcaaa
open Go.RowKit Go.Sort Go.Lib

/-- The row of n entries in block blk holds the state's. -/
def RowS (blk n : Nat) (w0 : World) (s : St It) (W : World) : Prop := s.d.size = n ∧ RowR blk w0 s.d W
/-- The two functions of a lessSwap: less (SliceStable's literal, bound to the boxes tb and ob) and swap (function sf, bound to sb), boxed. -/
abbrev boxF (tb ob sf : Nat) (sb : Array Value) : Obj := .cells #[.func (.func 32) #[] #[.pointer (some ⟨tb, 0, none⟩), .pointer (some ⟨ob, 0, none⟩)], .func (.func sf) #[] sb] 74

/-- What is asked of the two: in every world that the sort passes through less reads the row, swap exchanges. -/
structure FncOk (lt : It → It → Bool) (tb ob sf : Nat) (sb : Array Value) (blk n : Nat) (w0 : World) : Prop where
  less : ∀ W (d : Array It) (i j : Nat), RowR blk w0 d W → d.size = n → i < n → j < n → Calls Try.prog 32 #[.int .i64 i, .int .i64 j, .pointer (some ⟨tb, 0, none⟩), .pointer (some ⟨ob, 0, none⟩)] W fun e w' => e = .returned (.bool (lt d[i]! d[j]!)) ∧ ∃ q os, w' = Sort.grow (W.drewN q) os
  swap : SwapSwapsK Try.prog sf sb encI 2 blk 0 n

/-- .. inside a function that has boxed the two in block bx: R is the world's word. -/
structure FncB (lt : It → It → Bool) (tb ob sf : Nat) (sb : Array Value) (n bx : Nat) (R : St It → World → Prop) : Prop where
  lessZ : ∀ {s : St It} {W : World}, R s W → ∀ (i j : Nat), i < n → j < n → ∀ (x y : Int), x = i → y = j →
    Calls Try.prog 32 #[.int .i64 x, .int .i64 y, .pointer (some ⟨tb, 0, none⟩), .pointer (some ⟨ob, 0, none⟩)] W fun e w' => e = .returned (.bool (lt s.d[i]! s.d[j]!)) ∧ R (s.ask i j) w'
  swapZ : ∀ {s : St It} {W : World}, R s W → ∀ (i j : Nat), i < n → j < n → ∀ (x y : Int), x = i → y = j →
    ∃ w', (callFunc sf (#[.int .i64 x, .int .i64 y] ++ sb)).run Try.prog W = .ok (.value (.tuple #[])) w' ∧ R (s.swap i j) w'
  box : ∀ {s : St It} {W : World}, R s W → W.cell? ⟨bx, 0, none⟩ = some (.func (.func 32) #[] #[.pointer (some ⟨tb, 0, none⟩), .pointer (some ⟨ob, 0, none⟩)]) ∧ W.cell? ⟨bx, 1, none⟩ = some (.func (.func sf) #[] sb)

section
variable {lt : It → It → Bool} {tb ob sf : Nat} {sb : Array Value} {blk n : Nat} {w0 : World} {s : St It} {W : World}
theorem RowR.rebase {w1 : World} {d d' : Array It} (h : RowR blk w0 d w1) (k : RowR blk w1 d' W) : RowR blk w0 d' W :=
  ⟨⟨k.only.os.trans h.only.os, k.only.tape.trans h.only.tape, k.only.output.trans h.only.output, Nat.le_trans h.only.size k.only.size, fun b hb hne => (k.only.block b (Nat.lt_of_lt_of_le hb h.only.size) hne).trans (h.only.block b hb hne)⟩, k.holds, h.lt⟩
theorem FncOk.rebase (hI : FncOk lt tb ob sf sb blk n w0) {w1 : World} {d : Array It} (h : RowR blk w0 d w1) : FncOk lt tb ob sf sb blk n w1 :=
  ⟨fun W d i j hd => hI.less W d i j (h.rebase hd), hI.swap⟩
theorem FncOk.enter (hI : FncOk lt tb ob sf sb blk n w0) (hR : RowS blk n w0 s W) : ∃ w1, FncB lt tb ob sf sb n W.heap.size (RowS blk n w1) ∧ FncOk lt tb ob sf sb blk n w1 ∧ RowS blk n w1 s (W.alloc (boxF tb ob sf sb)) ∧ ∀ t w', RowS blk n w1 t w' → RowS blk n w0 t w' := by
  have hA := hR.2.alloc (boxF tb ob sf sb)
  have hO := hI.rebase hA
  have hbW := hR.2.ltW
  refine ⟨W.alloc (boxF tb ob sf sb), ⟨?_, ?_, ?_⟩, hO, ⟨hR.1, RowR.start (Nat.lt_of_lt_of_le hbW (by simp)) hA.holds⟩, fun t w' h => ⟨h.1, hA.rebase h.2⟩⟩
  · intro t W' h i j hi hj x y hx hy
    subst hx hy
    refine (hO.less W' t.d i j h.2 h.1 hi hj).mono fun e w' ⟨he, q, os, hw⟩ => ⟨he, h.1, ?_⟩
    subst hw
    exact h.2.grown q os
  · intro t W' h i j hi hj x y hx hy
    subst hx hy
    refine ⟨_, hO.swap W' t.d h.2.holds h.1 i j hi hj, ?_, ?_⟩
    · rw [St.swap_d, size_swp]; exact h.1
    · have := h.2.swapped (i := i) (j := j) (by rw [h.1]; exact hi) (by rw [h.1]; exact hj)
      simp only [encI, World.setCells, Nat.zero_add]
      exact this
  · intro t W' h
    have hne : W.heap.size ≠ blk := by omega
    have hc : ∀ q, W'.cell? ⟨W.heap.size, q, none⟩ = (W.alloc (boxF tb ob sf sb)).cell? ⟨W.heap.size, q, none⟩ := fun q =>
      World.cell?_of_block (h.2.only.block W.heap.size (by simp) (fun e => by injection e with e; exact hne e))
    exact ⟨by rw [hc]; simp, by rw [hc]; simp⟩
end

set_option maxHeartbeats 400000 in
theorem swapRange_fnc (lt : It → It → Bool) (tb ob sf : Nat) (sb : Array Value) (blk n : Nat) (w0 : World) (hI : FncOk lt tb ob sf sb blk n w0) (a b k : Nat) (s : St It) (W : World) (hR : RowS blk n w0 s W) (ha : a + k ≤ n) (hb : b + k ≤ n) (hn : n ≤ 1000000) :
    Calls Try.prog 59 #[.agg #[.func (.func 32) #[] #[.pointer (some ⟨tb, 0, none⟩), .pointer (some ⟨ob, 0, none⟩)], .func (.func sf) #[] sb], .int .i64 a, .int .i64 b, .int .i64 k] W fun e w' => e = .returned (.tuple #[]) ∧ RowS blk n w0 (swRange a b k 0 s) w' := by
  obtain ⟨w1, hi, ho, hr, hbk⟩ := hI.enter hR
  have HI := Lib.hid hi
  have HR := Lib.hid hr
  have HBK := Lib.hid hbk
  clear hI hR hi ho hr hbk
  go_enter Try.func59, Try.ntmps59
  go_wp2
  go_loopg [8] k (fun g vi wr => ∃ (i : Nat) (t : St It), vi = .int .i64 i ∧ i ≤ k ∧ k - i ≤ g ∧ Hid (RowS blk n w1 t wr ∧ swRange a b k i t = swRange a b k 0 s))
  case atStart => exact ⟨0, s, rfl, by omega, by omega, HR.out, rfl⟩
  case round =>
    obtain ⟨i, t, rfl, hik, hg, HT⟩ := hrel
    by_cases hlt : i < k
    · have hltz : (i : Int) < (k : Int) := by omega
      obtain ⟨x0, x1⟩ := HI.out.box HT.out.1
      obtain ⟨w', hsw, hR'⟩ := HI.out.swapZ HT.out.1 (a + i) (b + i) (by omega) (by omega) ((a : Int) + i) ((b : Int) + i) (by omega) (by omega)
      have HR' := Lib.hid hR'
      have HSW := Lib.hid hsw
      clear hR' hsw
      go_wp2_with fail
      rw [HSW.out, Oper.upon_value]
      go_wp2_with fail
      go_roundg (k - (i + 1))
      case measure => omega
      case rel => exact ⟨i + 1, t.swap (a + i) (b + i), by go_num, by omega, Nat.le_refl _, (show Hid _ from ⟨HR'.out, by rw [← HT.out.2, ← swRange_go a b k i t hlt]⟩)⟩
    · have hltz : ¬ (i : Int) < (k : Int) := by omega
      go_wp2
      go_end0
      exact ⟨rfl, HBK.out _ _ (by rw [← HT.out.2, swRange_stop a b k i t hlt]; exact HT.out.1)⟩

set_option maxHeartbeats 400000 in
theorem rotate_fnc (lt : It → It → Bool) (tb ob sf : Nat) (sb : Array Value) (blk n : Nat) (w0 : World) (hI : FncOk lt tb ob sf sb blk n w0) (a m b : Nat) (s : St It) (W : World) (hR : RowS blk n w0 s W) (ham : a < m) (hmb : m < b) (hb : b ≤ n) (hn : n ≤ 1000000) :
    Calls Try.prog 56 #[.agg #[.func (.func 32) #[] #[.pointer (some ⟨tb, 0, none⟩), .pointer (some ⟨ob, 0, none⟩)], .func (.func sf) #[] sb], .int .i64 a, .int .i64 m, .int .i64 b] W fun e w' => e = .returned (.tuple #[]) ∧ RowS blk n w0 (rotate a m b s) w' := by
  obtain ⟨w1, hi, ho, hr, hbk⟩ := hI.enter hR
  have HI := Lib.hid (fun x y k t W' h1 h2 h3 => swapRange_fnc lt tb ob sf sb blk n w1 ho x y k t W' h1 h2 h3 hn)
  have HX := Lib.hid hi
  have HR := Lib.hid hr
  have HBK := Lib.hid hbk
  clear hI hR hi ho hr hbk
  go_enter Try.func56, Try.ntmps56
  go_wp2
  go_loopg [8, 9] (b - a) (fun g vi vj wr => ∃ (i j : Nat) (t : St It), vi = .int .i64 i ∧ vj = .int .i64 j ∧ 0 < i ∧ 0 < j ∧ i ≤ m ∧ m + j ≤ b ∧ i + j ≤ g ∧ Hid (RowS blk n w1 t wr ∧ rot m i j t = rotate a m b s))
  case atStart => exact ⟨m - a, b - m, s, by congr 1; omega, by congr 1; omega, by omega, by omega, by omega, by omega, by omega, HR.out, rfl⟩
  case round =>
    obtain ⟨i, j, t, rfl, rfl, hi, hj, him, hjb, hg, HT⟩ := hrel
    obtain ⟨x0, x1⟩ := HX.out.box HT.out.1
    rcases Nat.lt_trichotomy i j with h | h | h
    · have h1 : ((i : Int) != (j : Int)) = true := by rw [bne_iff_ne]; omega
      have h2 : ¬ (j : Int) < (i : Int) := by omega
      have E := Lib.hid (And.intro (show ((m : Int) - i) = ((m - i : Nat) : Int) by omega) (show ((m : Int) + j - i) = ((m + j - i : Nat) : Int) by omega))
      go_wp2_with fail
      rw [E.out.1, E.out.2]
      refine (HI.out (m - i) (m + j - i) i t wr HT.out.1 (by omega) (by omega)).mono ?_
      rintro e w' ⟨rfl, hR'⟩
      have HR' := Lib.hid hR'
      clear hR'
      go_wp2_with fail
      go_roundg (j)
      case measure => omega
      case rel => exact ⟨i, j - i, swRange (m - i) (m + j - i) i 0 t, rfl, by congr 1; omega, hi, by omega, him, by omega, by omega, (show Hid _ from ⟨HR'.out, by rw [← HT.out.2, rot_right m i j t hi h]⟩)⟩
    · subst h
      have h1 : ((i : Int) != (i : Int)) = false := by simp
      have E := Lib.hid (show ((m : Int) - i) = ((m - i : Nat) : Int) by omega)
      go_wp2_with fail
      rw [E.out]
      refine (HI.out (m - i) m i t wr HT.out.1 (by omega) (by omega)).mono ?_
      rintro e w' ⟨rfl, hR'⟩
      have HR' := Lib.hid hR'
      clear hR'
      go_wp2_with fail
      go_end0
      exact ⟨rfl, HBK.out _ _ (by rw [← HT.out.2, rot_end m i t hi]; exact HR'.out)⟩
    · have h1 : ((i : Int) != (j : Int)) = true := by rw [bne_iff_ne]; omega
      have h2 : (j : Int) < (i : Int) := by omega
      have E := Lib.hid (show ((m : Int) - i) = ((m - i : Nat) : Int) by omega)
      go_wp2_with fail
      rw [E.out]
      refine (HI.out (m - i) m j t wr HT.out.1 (by omega) (by omega)).mono ?_
      rintro e w' ⟨rfl, hR'⟩
      have HR' := Lib.hid hR'
      clear hR'
      go_wp2_with fail
      go_roundg (i)
      case measure => omega
      case rel => exact ⟨i - j, j, swRange (m - i) m j 0 t, by congr 1; omega, rfl, by omega, hj, by omega, hjb, by omega, (show Hid _ from ⟨HR'.out, by rw [← HT.out.2, rot_left m i j t hj h]⟩)⟩

set_option maxHeartbeats 1000000 in
theorem insertionSort_fnc (lt : It → It → Bool) (tb ob sf : Nat) (sb : Array Value) (blk n : Nat) (w0 : World) (hI : FncOk lt tb ob sf sb blk n w0) (a b : Nat) (s : St It) (W : World) (hR : RowS blk n w0 s W) (hab : a ≤ b) (hb : b ≤ n) (hn : n ≤ 1000000) :
    Calls Try.prog 52 #[.agg #[.func (.func 32) #[] #[.pointer (some ⟨tb, 0, none⟩), .pointer (some ⟨ob, 0, none⟩)], .func (.func sf) #[] sb], .int .i64 a, .int .i64 b] W fun e w' => e = .returned (.tuple #[]) ∧ RowS blk n w0 (insSort lt a b s) w' := by
  obtain ⟨w1, hi, ho, hr, hbk⟩ := hI.enter hR
  have HI := Lib.hid hi
  have HR := Lib.hid hr
  have HBK := Lib.hid hbk
  clear hI hR hi ho hr hbk
  go_enter Try.func52, Try.ntmps52
  go_wp2
  go_loopg [6] (b - a) (fun g vi wr => ∃ (i : Nat) (t : St It), vi = .int .i64 i ∧ a < i ∧ i ≤ b + 1 ∧ b + 1 - i ≤ g + 1 ∧ Hid (RowS blk n w1 t wr ∧ insOut lt a b i t = insSort lt a b s))
  case atStart => exact ⟨a + 1, s, by go_num, by omega, by omega, by omega, HR.out, rfl⟩
  case round =>
    obtain ⟨i, t, rfl, hai, hib, hg, HT⟩ := hrel
    by_cases hlt : i < b
    · have hltz : (i : Int) < (b : Int) := by omega
      go_wp2
      go_loopg [7] i (fun g2 vj wr2 => ∃ (j : Nat) (t2 : St It), vj = .int .i64 j ∧ a ≤ j ∧ j ≤ i ∧ j ≤ g2 ∧ Hid (RowS blk n w1 t2 wr2 ∧ insIn lt a j t2 = insIn lt a i t))
      case atStart => exact ⟨i, t, rfl, by omega, Nat.le_refl _, Nat.le_refl _, HT.out.1, rfl⟩
      case round =>
        obtain ⟨j, t2, rfl, haj, hji, hg2, HT2⟩ := hrel
        obtain ⟨x0, x1⟩ := HI.out.box HT2.out.1
        by_cases hja : a < j
        · obtain ⟨jp, rfl⟩ : ∃ jp, j = jp + 1 := ⟨j - 1, by omega⟩
          have hjaz : (a : Int) < ((jp : Int) + 1) := by omega
          have HGO := Lib.hid (fun h => insIn_go lt a jp t2 hja h)
          have HNO := Lib.hid (fun h => insIn_no lt a jp t2 hja h)
          have HL := Lib.hid (HI.out.lessZ HT2.out.1 (jp + 1) jp (by omega) (by omega) ((jp : Int) + 1) (jp : Int) (by omega) rfl)
          have HSW := Lib.hid (fun W' (h : RowS blk n w1 (t2.ask (jp + 1) jp) W') => HI.out.swapZ h (jp + 1) jp (by omega) (by omega) ((jp : Int) + 1) (jp : Int) (by omega) rfl)
          cases hlv : lt t2.d[jp + 1]! t2.d[jp]! with
          | true =>
            replace HL := Lib.hid HL.out
            rw [hlv] at HL
            replace HGO := Lib.hid (HGO.out hlv)
            clear HNO hlv
            go_wp2_with fail
            refine HL.out.mono ?_
            rintro e w' ⟨rfl, hR'⟩
            obtain ⟨y0, y1⟩ := HI.out.box hR'
            obtain ⟨w'', hsw, hR''⟩ := HSW.out w' hR'
            have HR'' := Lib.hid hR''
            have HSX := Lib.hid hsw
            clear hR' hR'' hsw HSW HL
            go_wp2_with fail
            rw [HSX.out, Oper.upon_value]
            go_wp2_with fail
            go_roundg jp
            case measure => omega
            case rel => exact ⟨jp, (t2.ask (jp + 1) jp).swap (jp + 1) jp, by first | rfl | go_num | (congr 1; omega), by omega, by omega, Nat.le_refl _, (show Hid _ from ⟨HR''.out, by rw [← HGO.out]; exact HT2.out.2⟩)⟩
          | false =>
            replace HL := Lib.hid HL.out
            rw [hlv] at HL
            replace HNO := Lib.hid (HNO.out hlv)
            clear HGO HSW hlv
            go_wp2_with fail
            refine HL.out.mono ?_
            rintro e w' ⟨rfl, hR'⟩
            have HR' := Lib.hid hR'
            clear hR'
            go_wp2_with fail
            go_roundg (b - (i + 1))
            case measure => omega
            case rel => exact ⟨i + 1, t2.ask (jp + 1) jp, by go_num, by omega, by omega, by omega, (show Hid _ from ⟨HR'.out, by rw [← HT.out.2, insOut_go _ _ _ _ _ hlt, ← HT2.out.2, HNO.out]⟩)⟩
        · have hjaz' : ¬ (a : Int) < (j : Int) := by omega
          go_wp2_with fail
          go_roundg (b - (i + 1))
          case measure => omega
          case rel => exact ⟨i + 1, t2, by go_num, by omega, by omega, by omega, (show Hid _ from ⟨HT2.out.1, by rw [← HT.out.2, insOut_go _ _ _ _ _ hlt, ← HT2.out.2, insIn_stop _ _ _ _ (by omega)]⟩)⟩
    · have hltz : ¬ (i : Int) < (b : Int) := by omega
      go_wp2
      go_end0
      exact ⟨rfl, HBK.out _ _ (by rw [← HT.out.2, insOut_stop _ _ _ _ _ hlt]; exact HT.out.1)⟩

set_option maxHeartbeats 400000 in
/-- sort.insertionSort_func where there is nothing to sort: neither function is called. -/
theorem insertionSort_fnc_none (fv gv : Value) (a b : Nat) (W : World) (hab : b ≤ a + 1) (hb : a ≤ 1000000) :
    Calls Try.prog 52 #[.agg #[fv, gv], .int .i64 a, .int .i64 b] W fun e w' => e = .returned (.tuple #[]) ∧ w' = W.alloc (.cells #[fv, gv] 74) := by
  have hltz : ¬ (a : Int) + 1 < (b : Int) := by omega
  go_enter Try.func52, Try.ntmps52
  go_wp2
  refine wp_loop_rounds 1 ?_
  rw [rounds_succ]
  go_wp2
  go_end0
  exact ⟨rfl, rfl⟩
end Go.Proofs.Ytdpomoengbpcaaa
