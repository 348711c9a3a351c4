/- Walks: spec.Ranked, laws.ranked. -/
import Derived.Test.YtdpomoengbpcaaaHelpA
namespace Go.Proofs.Ytdpomoengbpcaaa
open Go.RowKit Go.Sort Go.Lib

/-- What comparing two ranks gives. -/
def cmpS (x y : Int) : Int := if y < x then 1 else if x < y then -1 else 0
/-- The row of the table for rank x. -/
def rankRow (zs : List Int) (x : Int) : List Int := zs.map fun y => cmpS x y
/-- The table of ranks. -/
def rankT (zs : List Int) : List Int := zs.flatMap (rankRow zs)
theorem rankRow_length (zs : List Int) (x : Int) : (rankRow zs x).length = zs.length := by simp [rankRow]
theorem rankT_take_length (zs : List Int) : ∀ (l : List Int), (l.flatMap (rankRow zs)).length = l.length * zs.length
  | [] => by simp
  | x :: r => by rw [List.flatMap_cons, List.length_append, rankRow_length, rankT_take_length zs r, List.length_cons, Nat.add_mul, Nat.one_mul, Nat.add_comm]
theorem take_snoc_int (zs : List Int) (k : Nat) (h : k < zs.length) : zs.take (k + 1) = zs.take k ++ [zs.getD k 0] := by
  rw [List.take_succ_eq_append_getElem h]
  congr 2
  simp [List.getD_eq_getElem?_getD, List.getElem?_eq_getElem h]
theorem rankT_snoc (zs : List Int) (k : Nat) (h : k < zs.length) : (zs.take (k + 1)).flatMap (rankRow zs) = (zs.take k).flatMap (rankRow zs) ++ rankRow zs (zs.getD k 0) := by
  rw [take_snoc_int zs k h, List.flatMap_append]; simp
theorem rankRow_snoc (zs : List Int) (x : Int) (j : Nat) (h : j < zs.length) : (rankRow zs x).take (j + 1) = (rankRow zs x).take j ++ [cmpS x (zs.getD j 0)] := by
  unfold rankRow
  rw [List.take_succ_eq_append_getElem (by simpa using h)]
  congr 2
  simp [List.getD_eq_getElem?_getD, List.getElem?_eq_getElem h]

set_option maxHeartbeats 1000000 in
theorem Ranked_any (A : Option Addr) (n c : Nat) (zs : List Int) (w : World) (hz : IntsR w A n zs) (hn : n ≤ 1000000) :
    Calls Try.prog 26 #[.slice A n c] w fun e w' =>
      ∃ b' c' m, e = .returned (.slice (some ⟨b', 0, none⟩) m c') ∧ m = (rankT zs).length ∧ OwnZ w' w.heap.size b' c' (rankT zs) ∧ Below w.heap.size w w' := by
  have HZ := Lib.hid hz
  have HL := Lib.hid hz.1
  clear hz
  go_enter Try.func26, Try.ntmps26
  go_wp2
  go_loopg [3, 12] n (fun g v vi wr => ∃ (k b c L : Nat), v = .slice (some ⟨b, 0, none⟩) L c ∧ vi = .int .i64 k ∧ k ≤ n ∧ n - k ≤ g ∧ L ≤ k * n ∧ Hid (L = ((zs.take k).flatMap (rankRow zs)).length ∧ OwnZ wr w.heap.size b c ((zs.take k).flatMap (rankRow zs)) ∧ Below w.heap.size w wr))
  case atStart => exact ⟨0, w.heap.size, 0, 0, rfl, rfl, by omega, by omega, by omega, by simp, by simp only [List.take_zero, List.flatMap_nil]; exact OwnZ.made w, (Below.refl _ _).alloc (Nat.le_refl _) _⟩
  case round =>
    obtain ⟨k, b, c, L, rfl, rfl, hkn, hg, hL, HR⟩ := hrel
    by_cases hlt : k < n
    · have hltz : (k : Int) < (n : Int) := by omega
      obtain ⟨bk, o, rfl, hb, hc⟩ := HZ.out.2 (by omega)
      have hcell : wr.cell? ⟨bk, o + k, none⟩ = some (.int .i64 (zs.getD k 0)) := (HR.out.2.2.cell (p := ⟨bk, o + k, none⟩) hb).trans (hc k hlt)
      have HT := Lib.hid (rankT_snoc zs k (by rw [HL.out]; exact hlt))
      have HC := Lib.hid (And.intro hb hc)
      have hkk : k * n ≤ 1000000 * 1000000 := Nat.mul_le_mul (by omega) hn
      have hks : (k + 1) * n = k * n + n := by rw [Nat.add_mul, Nat.one_mul]
      have HKS := Lib.hid hks
      clear hc hb hks
      generalize zs.getD k 0 = x at hcell HT
      go_wp2
      go_loopg [3, 18] n (fun g v vi wr2 => ∃ (j b c M : Nat), v = .slice (some ⟨b, 0, none⟩) M c ∧ vi = .int .i64 j ∧ j ≤ n ∧ n - j ≤ g ∧ M ≤ k * n + j ∧ Hid (M = ((zs.take k).flatMap (rankRow zs) ++ (rankRow zs x).take j).length ∧ OwnZ wr2 w.heap.size b c ((zs.take k).flatMap (rankRow zs) ++ (rankRow zs x).take j) ∧ Below w.heap.size w wr2))
      case atStart => exact ⟨0, b, c, L, rfl, rfl, by omega, by omega, by omega, by rw [List.take_zero, List.append_nil]; exact HR.out⟩
      case round =>
        obtain ⟨j, b2, c2, M, rfl, rfl, hjn, hg2, hM, HR2⟩ := hrel
        clear hcell HR
        by_cases hlt2 : j < n
        · have hlt2z : (j : Int) < (n : Int) := by omega
          have hcell : wr.cell? ⟨bk, o + j, none⟩ = some (.int .i64 (zs.getD j 0)) := (HR2.out.2.2.cell (p := ⟨bk, o + j, none⟩) HC.out.1).trans (HC.out.2 j hlt2)
          have HT2 := Lib.hid (rankRow_snoc zs x j (by rw [HL.out]; exact hlt2))
          have HCS := Lib.hid (fun y => show cmpS x y = if y < x then 1 else if x < y then -1 else 0 from rfl)
          generalize zs.getD j 0 = y at hcell HT2
          have hbb : w.heap.size ≤ b2 := HR2.out.2.1.lt.1
          have hsz : w.heap.size ≤ wr.heap.size := HR2.out.2.2.size
          rcases Int.lt_trichotomy x y with hxy | hxy | hxy
          · have hyx : ¬ y < x := by omega
            have HV := Lib.hid (show cmpS x y = -1 from by rw [HCS.out, if_neg hyx, if_pos hxy])
            have HO := Lib.hid (And.intro HR2.out.1 (HR2.out.2.1.alloc (.cells #[.int .i64 (-1)] 3)))
            have HS := Lib.hid (IntsR.one wr (-1))
            go_wp2_with (at_builtin; refine wpList_appZ rfl (.tmp 28) (.tmp 30) rfl w.heap.size b2 c2 M _ rfl HO.out wr.heap.size 0 1 1 [-1] rfl HS.out (by omega) (by simp; omega) ?_; intro b1 c1 w1 hown1 hgrow1)
            go_roundg (n - (j + 1))
            case measure => omega
            case rel =>
              refine ⟨j + 1, b1, c1, M + 1, rfl, by go_num, by omega, Nat.le_refl _, by omega, (show Hid _ from ?_)⟩
              rw [HT2.out, HV.out, ← List.append_assoc]
              exact ⟨hown1.out.1, hown1.out.2, below_app (HR2.out.2.2.alloc hsz _) hgrow1.out (by simp; omega) hbb⟩
          · have hyx : ¬ y < x := by omega
            have hyx' : ¬ x < y := by omega
            have HV := Lib.hid (show cmpS x y = 0 from by rw [HCS.out, if_neg hyx, if_neg hyx'])
            have HO := Lib.hid (And.intro HR2.out.1 (HR2.out.2.1.alloc (.cells #[.int .i64 0] 3)))
            have HS := Lib.hid (IntsR.one wr 0)
            clear hxy
            go_wp2_with (at_builtin; refine wpList_appZ rfl (.tmp 28) (.tmp 30) rfl w.heap.size b2 c2 M _ rfl HO.out wr.heap.size 0 1 1 [0] rfl HS.out (by omega) (by simp; omega) ?_; intro b1 c1 w1 hown1 hgrow1)
            go_roundg (n - (j + 1))
            case measure => omega
            case rel =>
              refine ⟨j + 1, b1, c1, M + 1, rfl, by go_num, by omega, Nat.le_refl _, by omega, (show Hid _ from ?_)⟩
              rw [HT2.out, HV.out, ← List.append_assoc]
              exact ⟨hown1.out.1, hown1.out.2, below_app (HR2.out.2.2.alloc hsz _) hgrow1.out (by simp; omega) hbb⟩
          · have hyx' : ¬ x < y := by omega
            have HV := Lib.hid (show cmpS x y = 1 from by rw [HCS.out, if_pos hxy])
            have HO := Lib.hid (And.intro HR2.out.1 (HR2.out.2.1.alloc (.cells #[.int .i64 1] 3)))
            have HS := Lib.hid (IntsR.one wr 1)
            go_wp2_with (at_builtin; refine wpList_appZ rfl (.tmp 28) (.tmp 30) rfl w.heap.size b2 c2 M _ rfl HO.out wr.heap.size 0 1 1 [1] rfl HS.out (by omega) (by simp; omega) ?_; intro b1 c1 w1 hown1 hgrow1)
            go_roundg (n - (j + 1))
            case measure => omega
            case rel =>
              refine ⟨j + 1, b1, c1, M + 1, rfl, by go_num, by omega, Nat.le_refl _, by omega, (show Hid _ from ?_)⟩
              rw [HT2.out, HV.out, ← List.append_assoc]
              exact ⟨hown1.out.1, hown1.out.2, below_app (HR2.out.2.2.alloc hsz _) hgrow1.out (by simp; omega) hbb⟩
        · have hlt2z : ¬ (j : Int) < (n : Int) := by omega
          have HJ := Lib.hid (show (rankRow zs x).take j = rankRow zs x from List.take_of_length_le (by rw [rankRow_length, HL.out]; omega))
          go_wp2
          go_roundg (n - (k + 1))
          case measure => omega
          case rel =>
            refine ⟨k + 1, b2, c2, M, rfl, by go_num, by omega, Nat.le_refl _, by rw [HKS.out]; omega, (show Hid _ from ?_)⟩
            have h2 := HR2.out
            rw [HJ.out] at h2
            rw [HT.out]
            exact h2
    · have hltz : ¬ (k : Int) < (n : Int) := by omega
      have HE := Lib.hid (show zs.take k = zs from List.take_of_length_le (by rw [HL.out]; omega))
      go_wp2
      go_ret
      have h2 := HR.out
      rw [HE.out] at h2
      exact ⟨b, c, L, rfl, h2.1, h2.2.1, h2.2.2⟩
end Go.Proofs.Ytdpomoengbpcaaa
