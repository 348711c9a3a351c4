/- Walks: spec.Arranged, laws.same. -/
import Derived.Test.YtdpomoengbpcaaaHelpD
namespace Go.Proofs.Ytdpomoengbpcaaa
open Go.RowKit Go.Sort Go.Lib

theorem made_ints (n : Nat) : (madeCells #[Value.int .i64 0] (n * 1)).toList = (List.replicate n (0 : Int)).map (Value.int .i64) := by
  rw [List.map_replicate, Nat.mul_one]
  apply List.ext_getElem
  · simp [madeCells]
  · intro i h1 h2
    simp [madeCells, Nat.mod_one]

theorem wpList_makeZ {ops : Array Oper} {rest : List Oper} {op : Oper} {a : Act} {w : World} {Q : Exit → Act → World → Prop} (hgd : op.guard = none) (l c : Operand) (ho : op.op = .makeSlice 22 l c)
    (base n : Nat) (hl : a.eval l = .int .i64 (n : Int)) (hc : a.eval c = .int .i64 (n : Int)) (hn : n ≤ 17592186044416) (hb : base ≤ w.heap.size)
    (h : ∀ w', Hid (n = (List.replicate n (0 : Int)).length ∧ OwnZ w' base w.heap.size n (List.replicate n 0)) → Hid (w.grownBy w' none) → wpList Try.prog ops Q rest (a.put op.dst (.slice (some ⟨w.heap.size, 0, none⟩) n n)) w') : wpList Try.prog ops Q (op :: rest) a w := by
  obtain ⟨i0, hi, hz0, hz1, hz2⟩ := info_parts info_int
  refine wpList_make_full w hgd l c 22 ho base 3 i0 _ 1 Try.underlying22 hi hz0 hz1 .i64 .i64 n n n hl hc rfl rfl (by rw [hz2]; omega) (by unfold maxLen; omega) hb ?_
  intro w' h1 h2
  refine h w' ⟨by simp, ?_⟩ h2
  unfold OwnZ
  rw [List.length_replicate, ← made_ints]
  exact h1

theorem OwnZ.set {w : World} {base b c : Nat} {zs : List Int} (h : OwnZ w base b c zs) (j : Nat) (x : Int) : OwnZ (w.setCell ⟨b, j, none⟩ (.int .i64 x)) base b c (zs.set j x) := by
  unfold OwnZ
  have := World.ownsRow.stored h j (.int .i64 x)
  rw [List.length_set, List.map_set]
  exact this.1
theorem OwnZ.at_ {w : World} {base b c : Nat} {zs : List Int} (h : OwnZ w base b c zs) (j : Nat) (hj : j < zs.length) : w.cell? ⟨b, j, none⟩ = some (.int .i64 (zs.getD j 0)) ∧ w.frozen? ⟨b, j, none⟩ = false := by
  refine ⟨?_, World.ownsRow.frozenAt h j⟩
  have e1 := World.ownsRow.cellAt h j (by omega)
  rw [e1, List.getElem?_map, List.getElem?_eq_getElem hj, List.getD_eq_getElem?_getD, List.getElem?_eq_getElem hj]
  rfl

/-- Index k counts for the place of index i. -/
def befB (S : Int → Int → Int) (ks : List Int) (i k : Nat) : Bool := decide (S (ks.getD k 0) (ks.getD i 0) < 0) || (decide (S (ks.getD k 0) (ks.getD i 0) = 0) && decide (k < i))
def placeTo (S : Int → Int → Int) (ks : List Int) (i j : Nat) : Nat := (List.range j).countP (befB S ks i)
def arrTo (S : Int → Int → Int) (ks : List Int) (k : Nat) : List Int := (List.range k).foldl (fun out i => out.set (placeTo S ks i ks.length) (i : Int)) (List.replicate ks.length 0)
theorem placeTo_succ (S : Int → Int → Int) (ks : List Int) (i j : Nat) : placeTo S ks i (j + 1) = placeTo S ks i j + if befB S ks i j then 1 else 0 := by
  unfold placeTo; rw [List.range_succ, List.countP_append, List.countP_singleton]
theorem placeTo_le (S : Int → Int → Int) (ks : List Int) (i j : Nat) : placeTo S ks i j ≤ j := by
  have := List.countP_le_length (p := befB S ks i) (l := List.range j); simpa [placeTo] using this
theorem placeTo_lt (S : Int → Int → Int) (ks : List Int) (i : Nat) (h : 0 ≤ S (ks.getD i 0) (ks.getD i 0)) : ∀ j, i < j → placeTo S ks i j < j
  | 0, h0 => by omega
  | j + 1, h0 => by
    rw [placeTo_succ]
    by_cases e : i = j
    · subst e
      have : befB S ks i i = false := by unfold befB; rw [decide_eq_false (by omega), decide_eq_false (show ¬ i < i by omega)]; simp
      rw [this]; have := placeTo_le S ks i i; simp; omega
    · have := placeTo_lt S ks i h j (by omega)
      split <;> omega
theorem arrTo_succ (S : Int → Int → Int) (ks : List Int) (k : Nat) : arrTo S ks (k + 1) = (arrTo S ks k).set (placeTo S ks k ks.length) (k : Int) := by
  unfold arrTo; rw [List.range_succ, List.foldl_append]; rfl
theorem arrTo_length (S : Int → Int → Int) (ks : List Int) : ∀ k, (arrTo S ks k).length = ks.length
  | 0 => by simp [arrTo]
  | k + 1 => by rw [arrTo_succ, List.length_set]; exact arrTo_length S ks k

/-- The table's sign of two keys. -/
def sg (N : Int) (zs : List Int) (a b : Int) : Int := sgn (num N zs a b)

set_option maxHeartbeats 1000000 in
theorem Arranged_any (N : Int) (A : Option Addr) (n c : Nat) (zs : List Int) (B : Option Addr) (m d : Nat) (ks : List Int) (w : World) (hz : IntsR w A n zs) (hn : n ≤ maxLen) (hk : IntsR w B m ks) (hm : m ≤ 1000000)
    (hself : ∀ i, i < m → 0 ≤ sg N zs (ks.getD i 0) (ks.getD i 0)) :
    Calls Try.prog 18 #[.int .i64 N, .slice A n c, .slice B m d] w fun e w' =>
      ∃ b' c', e = .returned (.slice (some ⟨b', 0, none⟩) m c') ∧ OwnZ w' w.heap.size b' c' (arrTo (sg N zs) ks m) ∧ Below w.heap.size w w' := by
  have HK := Lib.hid hk
  have HL := Lib.hid hk.1
  have HZ := Lib.hid hz
  have HS := Lib.hid hself
  have HC := Lib.hid (fun W (hW : IntsR W A n zs) a b => Sign_any N A n c zs a b W hW hn)
  clear hk hz hself hn
  go_enter Try.func18, Try.ntmps18
  go_wp2_with (at_make; refine wpList_makeZ rfl (.tmp 15) (.tmp 15) rfl w.heap.size m rfl rfl (by omega) (Nat.le_refl _) ?_; intro w1 hown1 hgrow1)
  go_loopg [19] m (fun g vi wr => ∃ (k : Nat), vi = .int .i64 k ∧ k ≤ m ∧ m - k ≤ g ∧ Hid (OwnZ wr w.heap.size w.heap.size m (arrTo (sg N zs) ks k) ∧ Below w.heap.size w wr))
  case atStart => exact ⟨0, rfl, by omega, by omega, by have := hown1.out.2; rw [← HL.out] at this ⊢; exact this, (Below.refl _ _).grown hgrow1.out (Nat.le_refl _) (fun k hk => by cases hk)⟩
  case round =>
    obtain ⟨k, rfl, hkm, hg, HR⟩ := hrel
    clear hown1 hgrow1
    by_cases hlt : k < m
    · have hltz : (k : Int) < (m : Int) := by omega
      obtain ⟨bk, o, rfl, hb, hc⟩ := HK.out.2 (by omega)
      have hcell : wr.cell? ⟨bk, o + k, none⟩ = some (.int .i64 (ks.getD k 0)) := (HR.out.2.cell (p := ⟨bk, o + k, none⟩) hb).trans (hc k hlt)
      have HCK := Lib.hid (And.intro hb hc)
      have HP := Lib.hid (fun j => placeTo_succ (sg N zs) ks k j)
      have HBF := Lib.hid (fun j => show befB (sg N zs) ks k j = (decide (sgn (num N zs (ks.getD j 0) (ks.getD k 0)) < 0) || (decide (sgn (num N zs (ks.getD j 0) (ks.getD k 0)) = 0) && decide (j < k))) from rfl)
      have HPL := Lib.hid (show placeTo (sg N zs) ks k m < m from placeTo_lt (sg N zs) ks k (HS.out k hlt) m hlt)
      clear hc hb
      generalize ks.getD k 0 = x at hcell HBF
      go_wp2
      go_loopg [10, 26] m (fun g vp vj wr2 => ∃ (j : Nat), vp = .int .i64 (placeTo (sg N zs) ks k j : Int) ∧ vj = .int .i64 j ∧ j ≤ m ∧ m - j ≤ g ∧ wr2 = wr)
      case atStart => exact ⟨0, rfl, rfl, by omega, by omega, rfl⟩
      case round =>
        obtain ⟨j, rfl, rfl, hjm, hg2, rfl⟩ := hrel
        by_cases hlt2 : j < m
        · have hlt2z : (j : Int) < (m : Int) := by omega
          have hcell2 : wr.cell? ⟨bk, o + j, none⟩ = some (.int .i64 (ks.getD j 0)) := (HR.out.2.cell (p := ⟨bk, o + j, none⟩) HCK.out.1).trans (HCK.out.2 j hlt2)
          replace HP := Lib.hid (HP.out j)
          replace HBF := Lib.hid (HBF.out j)
          have hpl : placeTo (sg N zs) ks k j ≤ j := placeTo_le _ _ _ _
          generalize placeTo (sg N zs) ks k j = p at HP hpl ⊢
          generalize befB (sg N zs) ks k j = bf at HP HBF
          generalize ks.getD j 0 = y at hcell2 HBF
          go_wp2_with fail
          refine (HC.out wr (HZ.out.below HR.out.2) y x).mono ?_
          rintro e w' ⟨rfl, rfl⟩
          generalize sgn (num N zs y x) = v at HBF
          by_cases v1 : v < 0
          · have HV := Lib.hid (show (placeTo (sg N zs) ks k (j + 1) : Int) = (p : Int) + 1 from by rw [HP.out, HBF.out]; simp [v1])
            go_wp2
            go_roundg (m - (j + 1))
            case measure => omega
            case rel => exact ⟨j + 1, by rw [HV.out], by go_num, by omega, Nat.le_refl _, rfl⟩
          · by_cases v2 : v = 0
            · have v2b : (v == 0) = true := by simp [v2]
              by_cases v3 : j < k
              · have v3z : (j : Int) < (k : Int) := by omega
                have HV := Lib.hid (show (placeTo (sg N zs) ks k (j + 1) : Int) = (p : Int) + 1 from by rw [HP.out, HBF.out]; simp [v2, v3])
                clear v2
                go_wp2
                go_roundg (m - (j + 1))
                case measure => omega
                case rel => exact ⟨j + 1, by rw [HV.out], by go_num, by omega, Nat.le_refl _, rfl⟩
              · have v3z : ¬ (j : Int) < (k : Int) := by omega
                have HV := Lib.hid (show (placeTo (sg N zs) ks k (j + 1) : Int) = (p : Int) from by rw [HP.out, HBF.out]; simp [v2, v3])
                clear v2
                go_wp2
                go_roundg (m - (j + 1))
                case measure => omega
                case rel => exact ⟨j + 1, by rw [HV.out], by go_num, by omega, Nat.le_refl _, rfl⟩
            · have v2b : (v == 0) = false := by simp [v2]
              have HV := Lib.hid (show (placeTo (sg N zs) ks k (j + 1) : Int) = (p : Int) from by rw [HP.out, HBF.out]; simp [v1, v2])
              clear v2
              go_wp2
              go_roundg (m - (j + 1))
              case measure => omega
              case rel => exact ⟨j + 1, by rw [HV.out], by go_num, by omega, Nat.le_refl _, rfl⟩
        · have hlt2z : ¬ (j : Int) < (m : Int) := by omega
          have HJ := Lib.hid (show j = m from by omega)
          have hp := HPL.out
          have HA := Lib.hid (show arrTo (sg N zs) ks (k + 1) = (arrTo (sg N zs) ks k).set (placeTo (sg N zs) ks k j) (k : Int) from by rw [arrTo_succ, HL.out, HJ.out])
          rw [← HJ.out] at hp
          have hpm : placeTo (sg N zs) ks k j < m := by have := HJ.out; omega
          generalize placeTo (sg N zs) ks k j = p at hpm HA ⊢
          have hc0 := HR.out.1.at_ p (by rw [arrTo_length, HL.out]; exact hpm)
          obtain ⟨hc1, hc2⟩ := hc0
          have hpz : (p : Int) < (m : Int) := by omega
          clear hp
          go_wp2
          go_roundg (m - (k + 1))
          case measure => omega
          case rel =>
            refine ⟨k + 1, by go_num, by omega, Nat.le_refl _, (show Hid _ from ?_)⟩
            rw [HA.out]
            exact ⟨HR.out.1.set p k, HR.out.2.setCell (by exact Nat.le_refl _) _⟩
    · have hltz : ¬ (k : Int) < (m : Int) := by omega
      have HE := Lib.hid (show k = m from by omega)
      go_wp2
      go_ret
      have h2 := HR.out
      rw [HE.out] at h2
      exact ⟨w.heap.size, m, rfl, h2.1, h2.2⟩
end Go.Proofs.Ytdpomoengbpcaaa
