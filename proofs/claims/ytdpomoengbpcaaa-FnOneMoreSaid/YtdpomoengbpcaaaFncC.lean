/- Walks: sort.symMerge_func where both sides have more than one entry, and the whole of it; it does what symMerge does. -/
import Derived.Test.YtdpomoengbpcaaaFncB
namespace Go.Proofs.Ytdpomoengbpcaaa
open Go.RowKit Go.Sort Go.Lib

/-- symMerge_func's contract at ranges shorter than k. -/
def SymOkF (lt : It → It → Bool) (tb ob sf : Nat) (sb : Array Value) (blk n k : Nat) : Prop :=
  ∀ (w0 : World), FncOk lt tb ob sf sb blk n w0 → ∀ (a m b : Nat) (s : St It) (W : World), b - a < k → RowS blk n w0 s W → a < m → m < b → b ≤ n →
    Calls Try.prog 53 #[.agg #[.func (.func 32) #[] #[.pointer (some ⟨tb, 0, none⟩), .pointer (some ⟨ob, 0, none⟩)], .func (.func sf) #[] sb], .int .i64 a, .int .i64 m, .int .i64 b] W fun e w' => e = .returned (.tuple #[]) ∧ RowS blk n w0 (symMerge lt a m b s) w'

set_option maxHeartbeats 4000000 in
set_option maxRecDepth 1000000 in
theorem symMerge_fnc_else (lt : It → It → Bool) (tb ob sf : Nat) (sb : Array Value) (blk n : Nat) (w0 : World) (hI : FncOk lt tb ob sf sb blk n w0) (a m b : Nat) (s : St It) (W : World) (hR : RowS blk n w0 s W) (ham : a < m) (ham' : ¬ m - a = 1) (hmb : m < b) (hmb' : ¬ b - m = 1) (hb : b ≤ n) (hn : n ≤ 1000000)
    (ih : SymOkF lt tb ob sf sb blk n (b - a)) :
    Calls Try.prog 53 #[.agg #[.func (.func 32) #[] #[.pointer (some ⟨tb, 0, none⟩), .pointer (some ⟨ob, 0, none⟩)], .func (.func sf) #[] sb], .int .i64 a, .int .i64 m, .int .i64 b] W fun e w' => e = .returned (.tuple #[]) ∧ RowS blk n w0 (symMerge lt a m b s) w' := by
  obtain ⟨w1, hi, ho, hr, hbk⟩ := hI.enter hR
  have HI := Lib.hid hi
  have HR := Lib.hid hr
  have HBK := Lib.hid hbk
  have IH := Lib.hid (ih w1 ho)
  have HRO := Lib.hid (fun x y z t W' h1 h2 h3 h4 => rotate_fnc lt tb ob sf sb blk n w1 ho x y z t W' h1 h2 h3 h4 hn)
  have HM := Lib.hid (symMerge_else lt a m b s ham' hmb')
  have h1 : ((m : Int) - a == 1) = false := by rw [beq_eq_false_iff_ne]; omega
  have h2 : ((b : Int) - m == 1) = false := by rw [beq_eq_false_iff_ne]; omega
  have hl1 : a + 1 < m := by omega
  have hl2 : m + 1 < b := by omega
  clear hI hR hi ho hr hbk ih ham' hmb'
  obtain ⟨e1, e2, e3, e4, e5, _, _⟩ := lo_hi a m b hl1 hl2
  have HL := Lib.hid (show lo a m b = if (a + b) / 2 < m then (a + b) / 2 + m - b else a from rfl)
  have HH := Lib.hid (show hi a m b = if (a + b) / 2 < m then (a + b) / 2 else m from rfl)
  have HB0 := Lib.hid (show bsC lt a m b s = bs lt (fun c => ((a + b) / 2 + m - 1 - c, c)) false (lo a m b) (hi a m b) s from rfl)
  generalize hlo : lo a m b = L at e1 e2 e3 e4 e5 HL HB0
  generalize hhi : hi a m b = H at e1 e2 e3 e4 e5 HH HB0
  clear hlo hhi
  have m1 : a < (a + b) / 2 := by omega
  have m2 : (a + b) / 2 < b := by omega
  have HBO := Lib.hid (fun (k : Nat) (t : St It) (h : bsC lt a m b s = (k, t)) => show symMerge lt a m b s = half2 lt a m b k (half1 lt a b k (turn a m b (k, t))) from by rw [HM.out, h])
  clear HM
  go_enter Try.func53, Try.ntmps53
  go_upto_if 106 with fail
  go_cut [18, 19] (fun vi vj wx => vi = .int .i64 (L : Int) ∧ vj = .int .i64 (H : Int) ∧ Hid (RowS blk n w1 s wx))
  case first =>
    as_aux_lemma =>
      by_cases hmid : (a + b) / 2 < m
      all_goals
        first | (have hmz : ((a : Int) + b) / 2 < (m : Int) := by omega) | (have hmz : ¬ ((a : Int) + b) / 2 < (m : Int) := by omega)
        have hLe : (L : Int) = if (a + b) / 2 < m then ((a : Int) + b) / 2 + m - b else a := by rw [HL.out]; split <;> omega
        have hHe : (H : Int) = if (a + b) / 2 < m then ((a : Int) + b) / 2 else m := by rw [HH.out]; split <;> omega
        first | rw [if_pos hmid] at hLe hHe | rw [if_neg hmid] at hLe hHe
        have HLH := Lib.hid (And.intro hLe hHe)
        clear hLe hHe
        go_wp2_with fail
        go_meet
        exact ⟨by rw [HLH.out.1], by rw [HLH.out.2], (show Hid _ from HR.out)⟩
  case rest =>
    clear HR
    obtain ⟨rfl, rfl, HR⟩ := hcut
    clear HL HH
    go_wp2
    go_loopg [18, 19, 21] (H - L) (fun g vi vj vc wr => ∃ (i j : Nat) (t : St It), vi = .int .i64 i ∧ vj = .int .i64 j ∧ L ≤ i ∧ i ≤ j ∧ j ≤ H ∧ j - i ≤ g ∧ Hid (RowS blk n w1 t wr ∧ bs lt (fun c => ((a + b) / 2 + m - 1 - c, c)) false i j t = bsC lt a m b s))
    case atStart => exact ⟨L, H, s, rfl, rfl, Nat.le_refl _, by omega, Nat.le_refl _, Nat.le_refl _, HR.out, HB0.out.symm⟩
    case round =>
      obtain ⟨i, j, t, rfl, rfl, hLi, hij, hjH, hg, HT⟩ := hrel
      obtain ⟨x0, x1⟩ := HI.out.box HT.out.1
      by_cases hlt : i < j
      · have hltz : (i : Int) < (j : Int) := by omega
        have HY := Lib.hid (fun h => bs_yes lt (fun c => ((a + b) / 2 + m - 1 - c, c)) false i j t hlt h)
        have HN := Lib.hid (fun h => bs_no lt (fun c => ((a + b) / 2 + m - 1 - c, c)) false i j t hlt h)
        have HLS := Lib.hid (HI.out.lessZ HT.out.1 ((a + b) / 2 + m - 1 - (i + j) / 2) ((i + j) / 2) (by omega) (by omega) (((a : Int) + b) / 2 + m - 1 - ((i : Int) + j) / 2) (((i : Int) + j) / 2) (by omega) (by omega))
        cases hlv : lt t.d[(a + b) / 2 + m - 1 - (i + j) / 2]! t.d[(i + j) / 2]! with
        | true =>
          as_aux_lemma =>
            rw [hlv] at HLS
            replace HN := Lib.hid (HN.out hlv)
            clear HY hlv
            go_wp2_with fail
            refine HLS.out.mono ?_
            rintro e w' ⟨rfl, hR'⟩
            have HR' := Lib.hid hR'
            clear hR' HLS
            go_wp2_with fail
            go_roundg ((i + j) / 2 - i)
            case measure => omega
            case rel => exact ⟨i, (i + j) / 2, t.ask ((a + b) / 2 + m - 1 - (i + j) / 2) ((i + j) / 2), rfl, by congr 1, hLi, by omega, by omega, Nat.le_refl _, (show Hid _ from ⟨HR'.out, by rw [← HT.out.2]; exact HN.out.symm⟩)⟩
        | false =>
          as_aux_lemma =>
            rw [hlv] at HLS
            replace HY := Lib.hid (HY.out hlv)
            clear HN hlv
            go_wp2_with fail
            refine HLS.out.mono ?_
            rintro e w' ⟨rfl, hR'⟩
            have HR' := Lib.hid hR'
            clear hR' HLS
            go_wp2_with fail
            go_roundg (j - ((i + j) / 2 + 1))
            case measure => omega
            case rel => exact ⟨(i + j) / 2 + 1, j, t.ask ((a + b) / 2 + m - 1 - (i + j) / 2) ((i + j) / 2), by congr 1, rfl, by omega, by omega, hjH, Nat.le_refl _, (show Hid _ from ⟨HR'.out, by rw [← HT.out.2]; exact HY.out.symm⟩)⟩
      · have hltz : ¬ (i : Int) < (j : Int) := by omega
        have HF := Lib.hid (HBO.out i t (by rw [← HT.out.2, bs_stop _ _ _ _ _ _ hlt]))
        have HT' := Lib.hid HT.out.1
        have k1 : a ≤ i := by omega
        have k2 : i ≤ m := by omega
        have k3 : i ≤ (a + b) / 2 := by omega
        have k4 : (a + b) / 2 + m - i ≤ b := by omega
        clear HT hg HB0 HBO
        obtain ⟨M, hM⟩ : ∃ M, M = (a + b) / 2 := ⟨_, rfl⟩
        obtain ⟨E, hE⟩ : ∃ E, E = (a + b) / 2 + m - i := ⟨_, rfl⟩
        have f1 : i ≤ M := by omega
        have f2 : E ≤ b := by omega
        have f3 : a < M := by omega
        have f4 : M < b := by omega
        have f5 : M ≤ E := by omega
        have HE := Lib.hid (And.intro (show ((a : Int) + b) / 2 = (M : Int) by omega) (show ((a : Int) + b) / 2 + m - i = (E : Int) by omega))
        have HX := Lib.hid (show (turn a m b (i, t) = if i < m ∧ m < E then rotate i m E t else t) ∧ (∀ t2, half1 lt a b i t2 = if a < i ∧ i < M then symMerge lt a i M t2 else t2) ∧ (∀ t2, half2 lt a m b i t2 = if M < E ∧ E < b then symMerge lt M E b t2 else t2) from by
          rw [hE, hM]; exact ⟨rfl, fun _ => rfl, fun _ => rfl⟩)
        clear hM hE k3 k4
        go_upto_region 40 with fail
        go_cut [16, 22, 145] (fun v16 v22 v wx => ∃ c : Bool, v16 = .int .i64 (M : Int) ∧ v22 = .int .i64 (E : Int) ∧ v = .bool c ∧ Hid (c = true ↔ (i < m ∧ m < E)) ∧ wx = wr)
        case first =>
          as_aux_lemma =>
            by_cases c1 : i < m
            · have c1z : (i : Int) < (m : Int) := by omega
              by_cases c2 : m < E
              · have HY := Lib.hid (And.intro c1 c2)
                have c2z : (m : Int) < ((a : Int) + b) / 2 + m - i := by rw [HE.out.2]; omega
                clear c2
                go_wp2_with fail
                go_meet
                exact ⟨true, by rw [HE.out.1], by rw [HE.out.2], rfl, (show Hid _ from ⟨fun _ => HY.out, fun _ => rfl⟩), rfl⟩
              · have HY := Lib.hid c2
                have c2z : ¬ (m : Int) < ((a : Int) + b) / 2 + m - i := by rw [HE.out.2]; omega
                clear c2
                go_wp2_with fail
                go_meet
                exact ⟨false, by rw [HE.out.1], by rw [HE.out.2], rfl, (show Hid _ from ⟨fun h => by (cases h), fun h => absurd h.2 HY.out⟩), rfl⟩
            · have c1z : ¬ (i : Int) < (m : Int) := by omega
              have HY := Lib.hid c1
              clear c1
              go_wp2_with fail
              go_meet
              exact ⟨false, by rw [HE.out.1], by rw [HE.out.2], rfl, (show Hid _ from ⟨fun h => by (cases h), fun h => absurd h.1 HY.out⟩), rfl⟩
        case rest =>
          as_aux_lemma =>
            obtain ⟨c, rfl, rfl, rfl, HC1, rfl⟩ := hcut
            go_upto_if 145 with fail
            go_cut [] (fun wx => Hid (RowS blk n w1 (turn a m b (i, t)) wx))
            case first =>
              as_aux_lemma =>
                cases c with
                | true =>
                  obtain ⟨c1, c2⟩ := HC1.out.1 rfl
                  have HY := Lib.hid (show turn a m b (i, t) = rotate i m E t from by rw [HX.out.1, if_pos ⟨c1, c2⟩])
                  go_wp2_with fail
                  refine (HRO.out i m E t wc HT'.out c1 c2 (by omega)).mono ?_
                  rintro e w' ⟨rfl, hR'⟩
                  have HR' := Lib.hid hR'
                  clear hR'
                  go_wp2_with fail
                  go_meet
                  exact (show Hid _ from by rw [HY.out]; exact HR'.out)
                | false =>
                  have HY := Lib.hid (show turn a m b (i, t) = t from by rw [HX.out.1, if_neg (fun h => by have := HC1.out.2 h; cases this)])
                  go_wp2_with fail
                  go_meet
                  exact (show Hid _ from by rw [HY.out]; exact HT'.out)
            case rest =>
              have HT2 := Lib.hid hcut.out
              clear x0 x1
              obtain ⟨x0, x1⟩ := HI.out.box HT2.out
              replace HX := Lib.hid HX.out.2
              clear hcut HT' HC1
              generalize turn a m b (i, t) = t2 at HT2 HF
              go_upto_region 42 with fail
              go_cut [158] (fun v wx => ∃ c : Bool, v = .bool c ∧ Hid (c = true ↔ (a < i ∧ i < M)) ∧ wx = wc)
              case first =>
                as_aux_lemma =>
                  by_cases c1 : a < i
                  · have c1z : (a : Int) < (i : Int) := by omega
                    by_cases c2 : i < M
                    · have HY := Lib.hid (And.intro c1 c2)
                      have c2z : (i : Int) < (M : Int) := by omega
                      go_wp2_with fail
                      go_meet
                      exact ⟨true, rfl, (show Hid _ from ⟨fun _ => HY.out, fun _ => rfl⟩), rfl⟩
                    · have HY := Lib.hid c2
                      have c2z : ¬ (i : Int) < (M : Int) := by omega
                      go_wp2_with fail
                      go_meet
                      exact ⟨false, rfl, (show Hid _ from ⟨fun h => by (cases h), fun h => absurd h.2 HY.out⟩), rfl⟩
                  · have c1z : ¬ (a : Int) < (i : Int) := by omega
                    have HY := Lib.hid c1
                    go_wp2_with fail
                    go_meet
                    exact ⟨false, rfl, (show Hid _ from ⟨fun h => by (cases h), fun h => absurd h.1 HY.out⟩), rfl⟩
              case rest =>
                obtain ⟨c, rfl, HC1, rfl⟩ := hcut
                go_upto_if 158 with fail
                go_cut [] (fun wx => Hid (RowS blk n w1 (half1 lt a b i t2) wx))
                case first =>
                  as_aux_lemma =>
                    cases c with
                    | true =>
                      obtain ⟨c1, c2⟩ := HC1.out.1 rfl
                      have HY := Lib.hid (show half1 lt a b i t2 = symMerge lt a i M t2 from by rw [HX.out.1, if_pos ⟨c1, c2⟩])
                      go_wp2_with fail
                      refine (IH.out a i M t2 wc (by omega) HT2.out c1 c2 (by omega)).mono ?_
                      rintro e w' ⟨rfl, hR'⟩
                      have HR' := Lib.hid hR'
                      clear hR'
                      go_wp2_with fail
                      go_meet
                      exact (show Hid _ from by rw [HY.out]; exact HR'.out)
                    | false =>
                      have HY := Lib.hid (show half1 lt a b i t2 = t2 from by rw [HX.out.1, if_neg (fun h => by have := HC1.out.2 h; cases this)])
                      go_wp2_with fail
                      go_meet
                      exact (show Hid _ from by rw [HY.out]; exact HT2.out)
                case rest =>
                  have HT3 := Lib.hid hcut.out
                  clear x0 x1
                  obtain ⟨x0, x1⟩ := HI.out.box HT3.out
                  replace HX := Lib.hid HX.out.2
                  clear hcut HT2 HC1
                  generalize half1 lt a b i t2 = t3 at HT3 HF
                  by_cases c1 : M < E
                  · have c1z : (M : Int) < (E : Int) := by omega
                    by_cases c2 : E < b
                    · have c2z : (E : Int) < (b : Int) := by omega
                      have HY := Lib.hid (show half2 lt a m b i t3 = symMerge lt M E b t3 from by rw [HX.out, if_pos ⟨c1, c2⟩])
                      go_wp2_with fail
                      refine (IH.out M E b t3 wc (by omega) HT3.out c1 c2 (by omega)).mono ?_
                      rintro e w' ⟨rfl, hR'⟩
                      have HR' := Lib.hid hR'
                      clear hR'
                      go_wp2_with fail
                      go_end0
                      exact ⟨rfl, HBK.out _ _ (by rw [HF.out, HY.out]; exact HR'.out)⟩
                    · have c2z : ¬ (E : Int) < (b : Int) := by omega
                      have HY := Lib.hid (show half2 lt a m b i t3 = t3 from by rw [HX.out, if_neg (fun h => c2 h.2)])
                      go_wp2_with fail
                      go_end0
                      exact ⟨rfl, HBK.out _ _ (by rw [HF.out, HY.out]; exact HT3.out)⟩
                  · have c1z : ¬ (M : Int) < (E : Int) := by omega
                    have HY := Lib.hid (show half2 lt a m b i t3 = t3 from by rw [HX.out, if_neg (fun h => c1 h.1)])
                    go_wp2_with fail
                    go_end0
                    exact ⟨rfl, HBK.out _ _ (by rw [HF.out, HY.out]; exact HT3.out)⟩

/-- sort.symMerge_func. -/
theorem symMerge_fnc (lt : It → It → Bool) (tb ob sf : Nat) (sb : Array Value) (blk n : Nat) (hn : n ≤ 1000000) : ∀ k, SymOkF lt tb ob sf sb blk n k := by
  intro k
  induction k with
  | zero => intro w0 hI a m b s W hk; omega
  | succ k ih =>
    intro w0 hI a m b s W hk hR ham hmb hb
    have ih' : SymOkF lt tb ob sf sb blk n (b - a) := fun w0' hI' a' m' b' s' W' hk' => ih w0' hI' a' m' b' s' W' (by omega)
    by_cases h1 : m - a = 1
    · exact symMerge_fnc_first lt tb ob sf sb blk n w0 hI a m b s W hR h1 hmb hb hn
    · by_cases h2 : b - m = 1
      · exact symMerge_fnc_last lt tb ob sf sb blk n w0 hI a m b s W hR ham h1 h2 hb hn
      · exact symMerge_fnc_else lt tb ob sf sb blk n w0 hI a m b s W hR ham h1 hmb h2 hb hn ih'
end Go.Proofs.Ytdpomoengbpcaaa
