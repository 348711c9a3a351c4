/- Walks: slices.symMergeCmpFunc at entries, where both sides have more than one entry; and the whole of it: it does what symMerge does. -/
import Derived.Test.YtdpomoengbpcaaaCmpD
import Derived.Deep.DeepCutAuto
namespace Go.Proofs.Ytdpomoengbpcaaa
open Go.RowKit Go.Sort Go.Lib

/-- symMerge's contract at ranges shorter than k: what the walk of a longer one takes its own calls by. -/
def SymOk (blk tb n cap : Nat) (w0 : World) (cf : It → It → Int) (k : Nat) : Prop :=
  ∀ (a m b : Nat) (s : St It) (W : World), b - a < k → RowR blk w0 s.d W → s.d.size = n → a < m → m < b → b ≤ n →
    Calls Try.prog 42 #[.slice (some ⟨blk, 0, none⟩) n cap, .int .i64 a, .int .i64 m, .int .i64 b, .func (.func 29) #[] #[.pointer (some ⟨tb, 0, none⟩)]] W fun e w' =>
      e = .returned (.tuple #[]) ∧ RowR blk w0 (symMerge (ltI cf) a m b s).d w'

set_option maxHeartbeats 4000000 in
set_option maxRecDepth 1000000 in
theorem symMerge_cmp_else (blk tb n cap : Nat) (w0 : World) (cf : It → It → Int) (hC : CmpGives tb cf blk w0) (a m b : Nat) (s : St It) (W : World) (hR : RowR blk w0 s.d W) (hs : s.d.size = n) (ham : a < m) (ham' : ¬ m - a = 1) (hmb : m < b) (hmb' : ¬ b - m = 1) (hb : b ≤ n) (hn : n < 4611686018427387904)
    (ih : SymOk blk tb n cap w0 cf (b - a)) :
    Calls Try.prog 42 #[.slice (some ⟨blk, 0, none⟩) n cap, .int .i64 a, .int .i64 m, .int .i64 b, .func (.func 29) #[] #[.pointer (some ⟨tb, 0, none⟩)]] W fun e w' =>
      e = .returned (.tuple #[]) ∧ RowR blk w0 (symMerge (ltI cf) a m b s).d w' := by
  have HR := Lib.hid hR
  have HS := Lib.hid hs
  have HC := Lib.hid hC
  have IH := Lib.hid ih
  have HM := Lib.hid (symMerge_else (ltI cf) a m b s ham' hmb')
  have h1 : ((m : Int) - a == 1) = false := by rw [beq_eq_false_iff_ne]; omega
  have h2 : ((b : Int) - m == 1) = false := by rw [beq_eq_false_iff_ne]; omega
  have hl1 : a + 1 < m := by omega
  have hl2 : m + 1 < b := by omega
  have mixed := mixedOrders
  clear hR hs hC ih ham' hmb'
  obtain ⟨e1, e2, e3, e4, e5, _, _⟩ := lo_hi a m b hl1 hl2
  have HL := Lib.hid (show lo a m b = if (a + b) / 2 < m then (a + b) / 2 + m - b else a from rfl)
  have HH := Lib.hid (show hi a m b = if (a + b) / 2 < m then (a + b) / 2 else m from rfl)
  have HB0 := Lib.hid (show bsC (ltI cf) a m b s = bs (ltI cf) (fun c => ((a + b) / 2 + m - 1 - c, c)) false (lo a m b) (hi a m b) s from rfl)
  generalize hlo : lo a m b = L at e1 e2 e3 e4 e5 HL HB0
  generalize hhi : hi a m b = H at e1 e2 e3 e4 e5 HH HB0
  clear hlo hhi
  have sz1 : ∀ (k : Nat) (t : St It), a ≤ k → (a + b) / 2 + m - k ≤ b → (turn a m b (k, t)).d.size = t.d.size := fun k t h1 h2 => (turn_run a m b k t h1 h2).size
  have sz2 : ∀ (k : Nat) (t : St It), (half1 (ltI cf) a b k t).d.size = t.d.size := fun k t => by
    unfold half1; split
    · exact (symMerge_run (ltI cf) _ a k _ t rfl (by omega) (by omega)).size
    · rfl
  have SZ := Lib.hid (And.intro sz1 sz2)
  clear sz1 sz2
  have m1 : a < (a + b) / 2 := by omega
  have m2 : (a + b) / 2 < b := by omega
  have zm : ((a : Int) + b) / 2 = (((a + b) / 2 : Nat) : Int) := by omega
  have ZM := Lib.hid zm
  have HBO := Lib.hid (fun (k : Nat) (t : St It) (h : bsC (ltI cf) a m b s = (k, t)) => show symMerge (ltI cf) a m b s = half2 (ltI cf) a m b k (half1 (ltI cf) a b k (turn a m b (k, t))) from by rw [HM.out, h])
  clear zm HM
  go_enter Try.func42, Try.ntmps42
  go_upto_if 140 with fail
  go_cut [20, 21] (fun vi vj wx => vi = .int .i64 (L : Int) ∧ vj = .int .i64 (H : Int) ∧ wx = W)
  case first =>
    as_aux_lemma =>
      by_cases hmid : (a + b) / 2 < m
      all_goals
        first | (have hmz : ((a : Int) + b) / 2 < (m : Int) := by omega) | (have hmz : ¬ ((a : Int) + b) / 2 < (m : Int) := by omega)
        have hLe : (L : Int) = if (a + b) / 2 < m then ((a : Int) + b) / 2 + m - b else a := by rw [HL.out]; split <;> omega
        have hHe : (H : Int) = if (a + b) / 2 < m then ((a : Int) + b) / 2 else m := by rw [HH.out]; split <;> omega
        first | rw [if_pos hmid] at hLe hHe | rw [if_neg hmid] at hLe hHe
        have HLH := Lib.hid (And.intro hLe hHe)
        clear hLe hHe
        go_wp2_with fail
        go_meet
        exact ⟨by rw [HLH.out.1], by rw [HLH.out.2], rfl⟩
  case rest =>
    obtain ⟨rfl, rfl, rfl⟩ := hcut
    clear HL HH
    go_wp2
    go_loopg [20, 21, 23] (H - L) (fun g vi vj vc wr => ∃ (i j : Nat) (t : St It), vi = .int .i64 i ∧ vj = .int .i64 j ∧ L ≤ i ∧ i ≤ j ∧ j ≤ H ∧ j - i ≤ g ∧ Hid (t.d.size = n ∧ RowR blk w0 t.d wr ∧ bs (ltI cf) (fun c => ((a + b) / 2 + m - 1 - c, c)) false i j t = bsC (ltI cf) a m b s))
    case atStart => exact ⟨L, H, s, rfl, rfl, Nat.le_refl _, by omega, Nat.le_refl _, Nat.le_refl _, HS.out, HR.out, HB0.out.symm⟩
    case round =>
      obtain ⟨i, j, t, rfl, rfl, hLi, hij, hjH, hg, HT⟩ := hrel
      by_cases hlt : i < j
      · have hltz : (i : Int) < (j : Int) := by omega
        have hi1 : (a + b) / 2 + m - 1 - (i + j) / 2 < t.d.size := by rw [HT.out.1]; omega
        have hi2 : (i + j) / 2 < t.d.size := by rw [HT.out.1]; omega
        obtain ⟨l1, l2, l3, l4, hcg⟩ := HT.out.2.1.asks HC.out hi1 hi2
        have HY := Lib.hid (fun h => bs_yes (ltI cf) (fun c => ((a + b) / 2 + m - 1 - c, c)) false i j t hlt h)
        have HN := Lib.hid (fun h => bs_no (ltI cf) (fun c => ((a + b) / 2 + m - 1 - c, c)) false i j t hlt h)
        have HLT := Lib.hid (show ltI cf t.d[(a + b) / 2 + m - 1 - (i + j) / 2]! t.d[(i + j) / 2]! = decide (cf t.d[(a + b) / 2 + m - 1 - (i + j) / 2]! t.d[(i + j) / 2]! < 0) from rfl)
        have q1 : ((i : Int) + j) / 2 < (n : Int) := by omega
        have q2 : (0 : Int) ≤ ((i : Int) + j) / 2 := by omega
        have q3 : (((i : Int) + j) / 2).toNat = (i + j) / 2 := by omega
        have q4 : ((a : Int) + b) / 2 + m - 1 - ((i : Int) + j) / 2 < (n : Int) := by omega
        have q5 : (0 : Int) ≤ ((a : Int) + b) / 2 + m - 1 - ((i : Int) + j) / 2 := by omega
        have q5' : ((i : Int) + j) / 2 ≤ ((a : Int) + b) / 2 + m - 1 := by omega
        have q6 : (((a : Int) + b) / 2 + m - 1 - ((i : Int) + j) / 2).toNat = (a + b) / 2 + m - 1 - (i + j) / 2 := by omega
        have q7 : IntKind.i64.wrap (((a : Int) + b) / 2 + m - 1 - ((i : Int) + j) / 2) = ((a : Int) + b) / 2 + m - 1 - ((i : Int) + j) / 2 := by rw [IntKind.wrap_i64]; omega
        by_cases hlv : cf t.d[(a + b) / 2 + m - 1 - (i + j) / 2]! t.d[(i + j) / 2]! < 0
        · skip
          as_aux_lemma =>
            replace HN := Lib.hid (HN.out (by rw [HLT.out]; exact decide_eq_true hlv))
            clear HY HLT
            generalize t.d[(a + b) / 2 + m - 1 - (i + j) / 2]! = X at l1 l2 hcg hlv
            generalize t.d[(i + j) / 2]! = Y at l3 l4 hcg hlv
            have hd : decide (cf X Y < 0) = true := decide_eq_true hlv
            clear hi1 hi2
            go_wp2_with fail
            go_quiet_grown (first | (go_at_call 29; refine Calls.grown_of (hcg _ _)))
            clear l1 l2 l3 l4 hcg
            go_wp2
            go_roundg ((i + j) / 2 - i)
            case measure => omega
            case rel =>
              refine ⟨i, (i + j) / 2, t.ask ((a + b) / 2 + m - 1 - (i + j) / 2) ((i + j) / 2), rfl, by congr 1, hLi, by omega, by omega, Nat.le_refl _, (show Hid _ from ?_)⟩
              exact ⟨HT.out.1, HT.out.2.1.grown nq osq, by rw [← HT.out.2.2]; exact HN.out.symm⟩
        · skip
          as_aux_lemma =>
            replace HY := Lib.hid (HY.out (by rw [HLT.out]; exact decide_eq_false hlv))
            clear HN HLT
            generalize t.d[(a + b) / 2 + m - 1 - (i + j) / 2]! = X at l1 l2 hcg hlv
            generalize t.d[(i + j) / 2]! = Y at l3 l4 hcg hlv
            have hd : decide (cf X Y < 0) = false := decide_eq_false hlv
            clear hi1 hi2
            go_wp2_with fail
            go_quiet_grown (first | (go_at_call 29; refine Calls.grown_of (hcg _ _)))
            clear l1 l2 l3 l4 hcg
            go_wp2
            go_roundg (j - ((i + j) / 2 + 1))
            case measure => omega
            case rel =>
              refine ⟨(i + j) / 2 + 1, j, t.ask ((a + b) / 2 + m - 1 - (i + j) / 2) ((i + j) / 2), by congr 1, rfl, by omega, by omega, hjH, Nat.le_refl _, (show Hid _ from ?_)⟩
              exact ⟨HT.out.1, HT.out.2.1.grown nq osq, by rw [← HT.out.2.2]; exact HY.out.symm⟩
      · have hltz : ¬ (i : Int) < (j : Int) := by omega
        have HF := Lib.hid (HBO.out i t (by rw [← HT.out.2.2, bs_stop _ _ _ _ _ _ hlt]))
        have HT' := Lib.hid (And.intro HT.out.1 HT.out.2.1)
        have k1 : a ≤ i := by omega
        have k2 : i ≤ m := by omega
        have k3 : i ≤ (a + b) / 2 := by omega
        have k4 : (a + b) / 2 + m - i ≤ b := by omega
        have S1 := Lib.hid (SZ.out.1 i t k1 k4)
        have S2 := Lib.hid (SZ.out.2 i (turn a m b (i, t)))
        clear HT hg HB0 HBO SZ
        obtain ⟨M, hM⟩ : ∃ M, M = (a + b) / 2 := ⟨_, rfl⟩
        obtain ⟨E, hE⟩ : ∃ E, E = (a + b) / 2 + m - i := ⟨_, rfl⟩
        have f1 : i ≤ M := by omega
        have f2 : E ≤ b := by omega
        have f3 : a < M := by omega
        have f4 : M < b := by omega
        have f5 : M ≤ E := by omega
        have HE := Lib.hid (And.intro (show ((a : Int) + b) / 2 = (M : Int) by omega) (show ((a : Int) + b) / 2 + m - i = (E : Int) by omega))
        have HX := Lib.hid (show (turn a m b (i, t) = if i < m ∧ m < E then rotate i m E t else t) ∧ (∀ t2, half1 (ltI cf) a b i t2 = if a < i ∧ i < M then symMerge (ltI cf) a i M t2 else t2) ∧ (∀ t2, half2 (ltI cf) a m b i t2 = if M < E ∧ E < b then symMerge (ltI cf) M E b t2 else t2) from by
          rw [hE, hM]; exact ⟨rfl, fun _ => rfl, fun _ => rfl⟩)
        clear hM hE k3 k4
        go_upto_region 39 with fail
        go_cut [18, 24, 185] (fun v18 v24 v wx => ∃ c : Bool, v18 = .int .i64 (M : Int) ∧ v24 = .int .i64 (E : Int) ∧ v = .bool c ∧ Hid (c = true ↔ (i < m ∧ m < E)) ∧ wx = wr)
        case first =>
          as_aux_lemma =>
            by_cases c1 : i < m
            · have c1z : (i : Int) < (m : Int) := by omega
              by_cases c2 : m < E
              · have HY := Lib.hid (And.intro c1 c2)
                have c2z : (m : Int) < ((a : Int) + b) / 2 + m - i := by rw [HE.out.2]; omega
                clear c2
                go_wp2_with fail
                go_meet
                exact ⟨true, by rw [HE.out.1], by rw [HE.out.2], rfl, (show Hid _ from ⟨fun _ => HY.out, fun _ => rfl⟩), rfl⟩
              · have HY := Lib.hid c2
                have c2z : ¬ (m : Int) < ((a : Int) + b) / 2 + m - i := by rw [HE.out.2]; omega
                clear c2
                go_wp2_with fail
                go_meet
                exact ⟨false, by rw [HE.out.1], by rw [HE.out.2], rfl, (show Hid _ from ⟨fun h => by (cases h), fun h => absurd h.2 HY.out⟩), rfl⟩
            · have c1z : ¬ (i : Int) < (m : Int) := by omega
              have HY := Lib.hid c1
              clear c1
              go_wp2_with fail
              go_meet
              exact ⟨false, by rw [HE.out.1], by rw [HE.out.2], rfl, (show Hid _ from ⟨fun h => by (cases h), fun h => absurd h.1 HY.out⟩), rfl⟩
        case rest =>
          as_aux_lemma =>
            obtain ⟨c, rfl, rfl, rfl, HC1, rfl⟩ := hcut
            go_upto_if 185 with fail
            go_cut [] (fun wx => Hid (RowR blk w0 (turn a m b (i, t)).d wx))
            case first =>
              as_aux_lemma =>
                cases c with
                | true =>
                  obtain ⟨c1, c2⟩ := HC1.out.1 rfl
                  have HY := Lib.hid (show turn a m b (i, t) = rotate i m E t from by rw [HX.out.1, if_pos ⟨c1, c2⟩])
                  go_wp2_with fail
                  refine (rotate_cmp blk n cap w0 _ i m E t wc HT'.out.2 HT'.out.1 c1 c2 (by omega) hn).mono ?_
                  rintro e w' ⟨rfl, hR'⟩
                  have HR' := Lib.hid hR'
                  clear hR'
                  go_wp2_with fail
                  go_meet
                  exact (show Hid _ from by rw [HY.out]; exact HR'.out)
                | false =>
                  have HY := Lib.hid (show turn a m b (i, t) = t from by rw [HX.out.1, if_neg (fun h => by have := HC1.out.2 h; cases this)])
                  go_wp2_with fail
                  go_meet
                  exact (show Hid _ from by rw [HY.out]; exact HT'.out.2)
            case rest =>
              have HT2 := Lib.hid (And.intro (S1.out.trans HT'.out.1) hcut.out)
              replace HX := Lib.hid HX.out.2
              clear hcut HT' S1 HC1
              generalize turn a m b (i, t) = t2 at HT2 S2 HF
              go_upto_region 41 with fail
              go_cut [199] (fun v wx => ∃ c : Bool, v = .bool c ∧ Hid (c = true ↔ (a < i ∧ i < M)) ∧ wx = wc)
              case first =>
                as_aux_lemma =>
                  by_cases c1 : a < i
                  · have c1z : (a : Int) < (i : Int) := by omega
                    by_cases c2 : i < M
                    · have HY := Lib.hid (And.intro c1 c2)
                      have c2z : (i : Int) < (M : Int) := by omega
                      go_wp2_with fail
                      go_meet
                      exact ⟨true, rfl, (show Hid _ from ⟨fun _ => HY.out, fun _ => rfl⟩), rfl⟩
                    · have HY := Lib.hid c2
                      have c2z : ¬ (i : Int) < (M : Int) := by omega
                      go_wp2_with fail
                      go_meet
                      exact ⟨false, rfl, (show Hid _ from ⟨fun h => by (cases h), fun h => absurd h.2 HY.out⟩), rfl⟩
                  · have c1z : ¬ (a : Int) < (i : Int) := by omega
                    have HY := Lib.hid c1
                    go_wp2_with fail
                    go_meet
                    exact ⟨false, rfl, (show Hid _ from ⟨fun h => by (cases h), fun h => absurd h.1 HY.out⟩), rfl⟩
              case rest =>
                obtain ⟨c, rfl, HC1, rfl⟩ := hcut
                go_upto_if 199 with fail
                go_cut [] (fun wx => Hid (RowR blk w0 (half1 (ltI cf) a b i t2).d wx))
                case first =>
                  as_aux_lemma =>
                    cases c with
                    | true =>
                      obtain ⟨c1, c2⟩ := HC1.out.1 rfl
                      have HY := Lib.hid (show half1 (ltI cf) a b i t2 = symMerge (ltI cf) a i M t2 from by rw [HX.out.1, if_pos ⟨c1, c2⟩])
                      go_wp2_with fail
                      refine (IH.out a i M t2 wc (by omega) HT2.out.2 HT2.out.1 c1 c2 (by omega)).mono ?_
                      rintro e w' ⟨rfl, hR'⟩
                      have HR' := Lib.hid hR'
                      clear hR'
                      go_wp2_with fail
                      go_meet
                      exact (show Hid _ from by rw [HY.out]; exact HR'.out)
                    | false =>
                      have HY := Lib.hid (show half1 (ltI cf) a b i t2 = t2 from by rw [HX.out.1, if_neg (fun h => by have := HC1.out.2 h; cases this)])
                      go_wp2_with fail
                      go_meet
                      exact (show Hid _ from by rw [HY.out]; exact HT2.out.2)
                case rest =>
                  have HT3 := Lib.hid (And.intro (S2.out.trans HT2.out.1) hcut.out)
                  replace HX := Lib.hid HX.out.2
                  clear hcut HT2 S2 HC1
                  generalize half1 (ltI cf) a b i t2 = t3 at HT3 HF
                  by_cases c1 : M < E
                  · have c1z : (M : Int) < (E : Int) := by omega
                    by_cases c2 : E < b
                    · have c2z : (E : Int) < (b : Int) := by omega
                      have HY := Lib.hid (show half2 (ltI cf) a m b i t3 = symMerge (ltI cf) M E b t3 from by rw [HX.out, if_pos ⟨c1, c2⟩])
                      go_wp2_with fail
                      refine (IH.out M E b t3 wc (by omega) HT3.out.2 HT3.out.1 c1 c2 (by omega)).mono ?_
                      rintro e w' ⟨rfl, hR'⟩
                      have HR' := Lib.hid hR'
                      clear hR'
                      go_wp2_with fail
                      go_end0
                      exact ⟨rfl, by rw [HF.out, HY.out]; exact HR'.out⟩
                    · have c2z : ¬ (E : Int) < (b : Int) := by omega
                      have HY := Lib.hid (show half2 (ltI cf) a m b i t3 = t3 from by rw [HX.out, if_neg (fun h => c2 h.2)])
                      go_wp2_with fail
                      go_end0
                      exact ⟨rfl, by rw [HF.out, HY.out]; exact HT3.out.2⟩
                  · have c1z : ¬ (M : Int) < (E : Int) := by omega
                    have HY := Lib.hid (show half2 (ltI cf) a m b i t3 = t3 from by rw [HX.out, if_neg (fun h => c1 h.1)])
                    go_wp2_with fail
                    go_end0
                    exact ⟨rfl, by rw [HF.out, HY.out]; exact HT3.out.2⟩

/-- slices.symMergeCmpFunc. -/
theorem symMerge_cmp (blk tb n cap : Nat) (w0 : World) (cf : It → It → Int) (hC : CmpGives tb cf blk w0) (hn : n < 4611686018427387904) : ∀ k, SymOk blk tb n cap w0 cf k := by
  intro k
  induction k with
  | zero => intro a m b s W hk; omega
  | succ k ih =>
    intro a m b s W hk hR hs ham hmb hb
    have ih' : SymOk blk tb n cap w0 cf (b - a) := fun a' m' b' s' W' hk' => ih a' m' b' s' W' (by omega)
    by_cases h1 : m - a = 1
    · exact symMerge_cmp_first blk tb n cap w0 cf hC a m b s W hR hs h1 hmb hb hn
    · by_cases h2 : b - m = 1
      · exact symMerge_cmp_last blk tb n cap w0 cf hC a m b s W hR hs ham h1 h2 hb hn
      · exact symMerge_cmp_else blk tb n cap w0 cf hC a m b s W hR hs ham h1 hmb h2 hb hn ih'
end Go.Proofs.Ytdpomoengbpcaaa
