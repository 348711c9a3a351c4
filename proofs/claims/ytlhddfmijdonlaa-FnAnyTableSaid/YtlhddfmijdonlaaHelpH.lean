/- Walks: make of truth values; spec.IsOrder. -/
import Derived.Test.YtlhddfmijdonlaaBox
namespace Go.Proofs.Ytlhddfmijdonlaa
open Go.RowKit Go.Sort Go.Lib

theorem info_bool : (Try.prog.info? 4).map (fun i => (i.zero, i.size, i.bytes)) = some (some (.bool false), 1, 1) := by kernel_rfl
/-- The block sb holds the truth values of f at 0 .. n-1, to be written. -/
def BoolsR (w : World) (sb n : Nat) (f : Nat → Bool) : Prop := sb < w.heap.size ∧ ∀ j, j < n → w.cell? ⟨sb, j, none⟩ = some (.bool (f j)) ∧ w.frozen? ⟨sb, j, none⟩ = false
theorem BoolsR.below {w w' : World} {sb n : Nat} {f : Nat → Bool} (h : BoolsR w sb n f) (hb : Below w.heap.size w w') : BoolsR w' sb n f :=
  ⟨Nat.lt_of_lt_of_le h.1 hb.size, fun j hj => ⟨(hb.cell (p := ⟨sb, j, none⟩) h.1).trans (h.2 j hj).1, (World.frozen?_of_block (hb.block sb h.1)).trans (h.2 j hj).2⟩⟩
theorem BoolsR.set {w : World} {sb n : Nat} {f : Nat → Bool} (h : BoolsR w sb n f) (k : Nat) (hk : k < n) (v : Bool) : BoolsR (w.setCell ⟨sb, k, none⟩ (.bool v)) sb n (fun j => if j = k then v else f j) := by
  refine ⟨by have := h.1; simpa [World.setCell] using this, fun j hj => ⟨?_, by rw [World.frozen?_setCell]; exact (h.2 j hj).2⟩⟩
  by_cases e : j = k
  · subst e
    show _ = some (Value.bool (if j = j then v else f j))
    rw [if_pos rfl]
    exact World.cell?_setCell_same' _ _ _ (by rw [(h.2 j hj).1]; rfl)
  · show _ = some (Value.bool (if j = k then v else f j))
    rw [if_neg e, World.cell?_setCell_other _ _ _ _ (fun x => by injection x with _ x2; exact e x2.symm)]
    exact (h.2 j hj).1

theorem made_bools (n : Nat) : (madeCells #[Value.bool false] (n * 1)).toList = List.replicate n (Value.bool false) := by
  apply List.ext_getElem
  · simp [madeCells]
  · intro i h1 h2
    simp [madeCells, Nat.mod_one]

theorem wpList_makeB {ops : Array Oper} {rest : List Oper} {op : Oper} {a : Act} {w : World} {Q : Exit → Act → World → Prop} (hgd : op.guard = none) (l c : Operand) (ho : op.op = .makeSlice 58 l c)
    (n : Nat) (hl : a.eval l = .int .i64 (n : Int)) (hc : a.eval c = .int .i64 (n : Int)) (hn : n ≤ 17592186044416)
    (h : ∀ w', Hid (BoolsR w' w.heap.size n (fun _ => false)) → Hid (w.grownBy w' none) → wpList Try.prog ops Q rest (a.put op.dst (.slice (some ⟨w.heap.size, 0, none⟩) n n)) w') : wpList Try.prog ops Q (op :: rest) a w := by
  obtain ⟨i0, hi, hz0, hz1, hz2⟩ := info_parts info_bool
  refine wpList_make_full w hgd l c 58 ho w.heap.size 4 i0 _ 1 Try.underlying58 hi hz0 hz1 .i64 .i64 n n n hl hc rfl rfl (by rw [hz2]; omega) (by unfold maxLen; omega) (Nat.le_refl _) ?_
  intro w' h1 h2
  refine h w' ⟨(World.ownsRow.lt h1 w.heap.size rfl).2, fun j hj => ⟨?_, World.ownsRow.frozenAt h1 j⟩⟩ h2
  have := World.ownsRow.cellAt h1 j (by omega)
  rw [this]
  have hm : ((madeCells (Value.bool false).cells (n * 1)).toList)[j]? = some (Value.bool false) := by
    rw [show (Value.bool false).cells = #[Value.bool false] from rfl, made_bools, List.getElem?_replicate, if_pos hj]
  exact hm

set_option maxHeartbeats 1000000 in
theorem IsOrder_yes (A : Option Addr) (n c : Nat) (os : List Int) (w : World) (hk : IntsR w A n os) (hin : ∀ i, i < n → 0 ≤ os.getD i 0 ∧ os.getD i 0 < (n : Int)) (hnd : os.Nodup) (hn : n ≤ 1000000) :
    Calls Try.prog 21 #[.slice A n c, .int .i64 n] w fun e w' => e = .returned (.bool true) ∧ Below w.heap.size w w' := by
  have HK := Lib.hid hk
  have HL := Lib.hid hk.1
  have HI := Lib.hid hin
  have HND := Lib.hid hnd
  clear hk hin hnd
  go_enter Try.func21, Try.ntmps21
  go_wp2_with (at_make; refine wpList_makeB rfl (.tmp 8) (.tmp 8) rfl n rfl rfl (by omega) ?_; intro w1 hown1 hgrow1)
  have HB1 := Lib.hid (show Below w.heap.size w w1 from (Below.refl _ _).grown hgrow1.out (Nat.le_refl _) (fun k hk => by cases hk))
  have HO1 := Lib.hid hown1.out
  clear hown1 hgrow1
  go_loopg [12] n (fun g vi wr => ∃ (k : Nat), vi = .int .i64 k ∧ k ≤ n ∧ n - k ≤ g ∧ Hid (BoolsR wr w.heap.size n (fun j => decide ((j : Int) ∈ os.take k)) ∧ Below w.heap.size w wr))
  case atStart => exact ⟨0, rfl, by omega, by omega, by have := HO1.out; simpa using this, HB1.out⟩
  case round =>
    obtain ⟨k, rfl, hkn, hg, HR⟩ := hrel
    by_cases hlt : k < n
    · have hltz : (k : Int) < (n : Int) := by omega
      obtain ⟨bk, o, rfl, hb, hc⟩ := HK.out.2 (by omega)
      have hcell : wr.cell? ⟨bk, o + k, none⟩ = some (.int .i64 (os.getD k 0)) := (HR.out.2.cell (p := ⟨bk, o + k, none⟩) hb).trans (hc k hlt)
      obtain ⟨g1, g2⟩ := HI.out k hlt
      have hsn : decide (((os.getD k 0).toNat : Int) ∈ os.take k) = false := by
        rw [decide_eq_false_iff_not]
        intro hm
        have hl := HL.out
        rw [show (((os.getD k 0).toNat : Nat) : Int) = os.getD k 0 by omega, getD_at os 0 k (by omega)] at hm
        obtain ⟨j, hj, he⟩ := List.getElem_of_mem hm
        rw [List.getElem_take] at he
        rw [List.length_take] at hj
        have := (List.getElem_inj HND.out).1 he
        omega
      have HT := Lib.hid (show os.take (k + 1) = os.take k ++ [os.getD k 0] from by
        have hl := HL.out
        rw [List.take_succ_eq_append_getElem (by omega), getD_at os 0 k (by omega)])
      generalize os.getD k 0 = x at hcell g1 g2 hsn HT
      obtain ⟨c1, f1⟩ := HR.out.1.2 x.toNat (by omega)
      simp only [hsn] at c1
      have HSET := Lib.hid (HR.out.1.set x.toNat (by omega) true)
      have HBS := Lib.hid (HR.out.2.setCell (p := ⟨w.heap.size, x.toNat, none⟩) (Nat.le_refl _) (.bool true))
      have n1 : ¬ x < 0 := by omega
      have n2 : ¬ (n : Int) ≤ x := by omega
      clear hc hb hsn
      go_wp2_with fail
      go_roundg (n - (k + 1))
      case measure => omega
      case rel =>
        refine ⟨k + 1, by go_num, by omega, Nat.le_refl _, (show Hid _ from ⟨?_, HBS.out⟩)⟩
        have h := HSET.out
        refine ⟨h.1, fun j hj => ⟨?_, (h.2 j hj).2⟩⟩
        rw [(h.2 j hj).1, HT.out]
        congr 2
        show (if j = x.toNat then true else decide ((j : Int) ∈ os.take k)) = decide ((j : Int) ∈ os.take k ++ [x])
        by_cases e : j = x.toNat
        · rw [if_pos e]
          have : (j : Int) = x := by omega
          simp [this]
        · rw [if_neg e]
          have : ¬ (j : Int) = x := by omega
          simp [this]
    · have hltz : ¬ (k : Int) < (n : Int) := by omega
      go_wp2_with fail
      go_ret
      exact ⟨by first | rfl | simp, HR.out.2⟩
end Go.Proofs.Ytlhddfmijdonlaa
