/- Walks: laws.ranked. -/
import Derived.Test.YtdpomoengbpcaaaHelpB
namespace Go.Proofs.Ytdpomoengbpcaaa
open Go.RowKit Go.Sort Go.Lib

theorem IntsR.cut {w : World} {A : Option Addr} {n : Nat} {zs : List Int} (h : IntsR w A n zs) (k : Nat) (hk : k ≤ n) : IntsR w A k (zs.take k) :=
  ⟨by rw [List.length_take, h.1]; omega, fun h0 => by
    obtain ⟨b, o, e, hb, hc⟩ := h.2 (by omega)
    refine ⟨b, o, e, hb, fun i hi => ?_⟩
    rw [hc i (by omega), List.getD_eq_getElem?_getD, List.getD_eq_getElem?_getD, List.getElem?_take_of_lt hi]⟩

/-- The keys that have a rank. -/
def rankKeys (n : Nat) (ks : List Int) : List Int := (ks.take 3000).filter fun k => decide (0 ≤ k) && decide (k < n)

set_option maxHeartbeats 1000000 in
theorem ranked_any (A B : Option Addr) (n c m d : Nat) (zs ks : List Int) (w : World) (hz : IntsR w A n zs) (hk : IntsR w B m ks) (hn : n ≤ maxLen) (hnc : n ≤ c) (hm : m ≤ maxLen) (hmd : m ≤ d) :
    Calls Try.prog 14 #[.slice A n c, .slice B m d] w fun e w' =>
      ∃ b1 c1 L b2 c2 M, e = .returned (.tuple #[.agg #[.int .i64 ((zs.take 300).length : Int), .slice (some ⟨b1, 0, none⟩) L c1], .slice (some ⟨b2, 0, none⟩) M c2]) ∧ L = (rankT (zs.take 300)).length ∧ M = (rankKeys (zs.take 300).length ks).length ∧
        OwnZ w' w.heap.size b1 c1 (rankT (zs.take 300)) ∧ OwnZ w' w.heap.size b2 c2 (rankKeys (zs.take 300).length ks) ∧ Below w.heap.size w w' := by
  unfold maxLen at hn hm
  obtain ⟨p, hp⟩ : ∃ p : Nat, p = min n 300 := ⟨_, rfl⟩
  obtain ⟨q, hq⟩ : ∃ q : Nat, q = min m 3000 := ⟨_, rfl⟩
  have e1 : min (n : Int) 300 = (p : Int) := by omega
  have e2 : min (m : Int) 3000 = (q : Int) := by omega
  have p1 : p ≤ c := by omega
  have p2 : p ≤ 300 := by omega
  have q1 : q ≤ d := by omega
  have q2 : q ≤ 3000 := by omega
  have hT : zs.take 300 = zs.take p := by
    rw [hp]
    by_cases h : n ≤ 300
    · rw [List.take_of_length_le (by rw [hz.1]; omega), List.take_of_length_le (by rw [hz.1]; omega)]
    · rw [show min n 300 = 300 by omega]
  have hTk : ks.take 3000 = ks.take q := by
    rw [hq]
    by_cases h : m ≤ 3000
    · rw [List.take_of_length_le (by rw [hk.1]; omega), List.take_of_length_le (by rw [hk.1]; omega)]
    · rw [show min m 3000 = 3000 by omega]
  have hlenp : (zs.take 300).length = p := by rw [hT, List.length_take, hz.1]; omega
  have hzp : IntsR w A p (zs.take 300) := by rw [hT]; exact hz.cut p (by omega)
  have hkq : IntsR w B q (ks.take 3000) := by rw [hTk]; exact hk.cut q (by omega)
  have hrk : ∀ n', rankKeys n' ks = (ks.take 3000).filter fun k => decide (0 ≤ k) && decide (k < (n' : Int)) := fun _ => rfl
  rw [hlenp]
  have HRK := Lib.hid (hrk p)
  have HQ := Lib.hid hkq.1
  have HZ := Lib.hid hzp
  have HK := Lib.hid hkq
  generalize zs.take 300 = zs' at hzp hlenp HZ ⊢
  generalize hks' : ks.take 3000 = ks' at HK HQ HRK
  generalize hrr : rankKeys p ks = rr at HRK ⊢
  clear hz hk hp hq hT hTk hlenp hzp hkq hrk hn hm hnc hmd hks' hrr
  go_enter Try.func14, Try.ntmps14
  go_wp2
  clear e1 e2
  go_loopg [6, 21] q (fun g v vi wr => ∃ (k b c L : Nat), v = .slice (some ⟨b, 0, none⟩) L c ∧ vi = .int .i64 k ∧ k ≤ q ∧ q - k ≤ g ∧ L ≤ k ∧ Hid (L = ((ks'.take k).filter fun k => decide (0 ≤ k) && decide (k < (p : Int))).length ∧ OwnZ wr (w.heap.size + 1) b c ((ks'.take k).filter fun k => decide (0 ≤ k) && decide (k < (p : Int))) ∧ Below (w.heap.size + 1) (w.alloc (.cells #[.int .i64 0, .slice none 0 0] 28)) wr))
  case atStart =>
    refine ⟨0, w.heap.size + 1, 0, 0, rfl, rfl, by omega, by omega, by omega, by simp, ?_, (Below.refl _ _).alloc (by simp) _⟩
    have := OwnZ.made (w.alloc (.cells #[.int .i64 0, .slice none 0 0] 28))
    simpa using this
  case round =>
    obtain ⟨k, b, cc, L, rfl, rfl, hkn, hg, hL, HR⟩ := hrel
    by_cases hlt : k < q
    · have hltz : (k : Int) < (q : Int) := by omega
      obtain ⟨bk, o, rfl, hb, hc⟩ := HK.out.2 (by omega)
      have hcell : wr.cell? ⟨bk, o + k, none⟩ = some (.int .i64 (ks'.getD k 0)) := (HR.out.2.2.cell (p := ⟨bk, o + k, none⟩) (by show bk < w.heap.size + 1; omega)).trans ((World.cell?_alloc_lt w _ ⟨bk, o + k, none⟩ hb).trans (hc k hlt))
      have HT := Lib.hid (take_snoc_int ks' k (by rw [HQ.out]; exact hlt))
      have hbb : w.heap.size + 1 ≤ b := HR.out.2.1.lt.1
      have hsz : w.heap.size + 1 ≤ wr.heap.size := by have := HR.out.2.2.size; simpa using this
      clear hc hb
      generalize ks'.getD k 0 = x at hcell HT
      by_cases x1 : 0 ≤ x
      · by_cases x2 : x < (p : Int)
        · have HV := Lib.hid (show ([x].filter fun k => decide (0 ≤ k) && decide (k < (p : Int))) = [x] from by simp [x1, x2])
          have HO := Lib.hid (And.intro HR.out.1 (HR.out.2.1.alloc (.cells #[.int .i64 x] 3)))
          have HS := Lib.hid (IntsR.one wr x)
          go_wp2_with (at_builtin; refine wpList_appZ rfl (.tmp 33) (.tmp 35) rfl (w.heap.size + 1) b cc L _ rfl HO.out wr.heap.size 0 1 1 [x] rfl HS.out (by omega) (by simp; omega) ?_; intro b1 c1 w1 hown1 hgrow1)
          go_roundg (q - (k + 1))
          case measure => omega
          case rel =>
            refine ⟨k + 1, b1, c1, L + 1, rfl, by go_num, by omega, Nat.le_refl _, by omega, (show Hid _ from ?_)⟩
            rw [HT.out, List.filter_append, HV.out]
            exact ⟨hown1.out.1, hown1.out.2, below_app (HR.out.2.2.alloc hsz _) hgrow1.out (by simp; omega) hbb⟩
        · have HV := Lib.hid (show ([x].filter fun k => decide (0 ≤ k) && decide (k < (p : Int))) = [] from by simp [x2])
          go_wp2
          go_roundg (q - (k + 1))
          case measure => omega
          case rel =>
            refine ⟨k + 1, b, cc, L, rfl, by go_num, by omega, Nat.le_refl _, by omega, (show Hid _ from ?_)⟩
            rw [HT.out, List.filter_append, HV.out, List.append_nil]
            exact HR.out
      · have HV := Lib.hid (show ([x].filter fun k => decide (0 ≤ k) && decide (k < (p : Int))) = [] from by simp [x1])
        go_wp2
        go_roundg (q - (k + 1))
        case measure => omega
        case rel =>
          refine ⟨k + 1, b, cc, L, rfl, by go_num, by omega, Nat.le_refl _, by omega, (show Hid _ from ?_)⟩
          rw [HT.out, List.filter_append, HV.out, List.append_nil]
          exact HR.out
    · have hltz : ¬ (k : Int) < (q : Int) := by omega
      have HE := Lib.hid (show ks'.take k = ks' from List.take_of_length_le (by rw [HQ.out]; omega))
      have h2 := HR.out
      rw [HE.out, ← HRK.out] at h2
      have HR2 := Lib.hid h2
      have hsz : w.heap.size + 1 ≤ wr.heap.size := by have := h2.2.2.size; simpa using this
      clear h2 HR
      go_wp2_with fail
      refine (Ranked_any A p c zs' wr ?_ (by omega)).mono ?_
      · exact ((HZ.out.alloc _).keep (by simpa using hsz) fun _ hp => HR2.out.2.2.cell (by simpa using hp))
      rintro e w2 ⟨b1, c1, m1, rfl, hm1, hown1, hb1⟩
      have hb2 := HR2.out.2.2.trans (hb1.mono hsz)
      have x0 : w2.cell? ⟨w.heap.size, 0, none⟩ = some (.int .i64 0) := by rw [hb2.cell (p := ⟨w.heap.size, 0, none⟩) (by simp)]; simp
      have x1 : w2.cell? ⟨w.heap.size, 1, none⟩ = some (.slice none 0 0) := by rw [hb2.cell (p := ⟨w.heap.size, 1, none⟩) (by simp)]; simp
      have y0 : w2.frozen? ⟨w.heap.size, 0, none⟩ = false := by rw [hb2.frozen (p := ⟨w.heap.size, 0, none⟩) (by simp)]; simp
      have y1 : w2.frozen? ⟨w.heap.size, 1, none⟩ = false := by rw [hb2.frozen (p := ⟨w.heap.size, 1, none⟩) (by simp)]; simp
      have hs2 : w.heap.size < w2.heap.size := by have := hb1.size; omega
      have HB := Lib.hid (And.intro hb2 (And.intro hb1 (And.intro hm1 hown1)))
      clear hb2 hb1 hown1 hm1
      go_wp2_with fail
      refine bodyPost_ret (v := .tuple #[.agg #[.int .i64 (p : Int), .slice (some ⟨b1, 0, none⟩) m1 c1], .slice (some ⟨b, 0, none⟩) L cc]) (by simp [results, Try.results14, go_sem, x0, x1]) rfl ?_
      obtain ⟨g1, g2, g3, g4⟩ := HB.out
      refine ⟨b1, c1, m1, b, cc, L, rfl, g3, HR2.out.1, ?_, ?_, ?_⟩
      · exact OwnZ.mono (ownsRow_setCell_below (ownsRow_setCell_below g4 (by show w.heap.size < _; omega) _) (by show w.heap.size < _; omega) _) (by omega)
      · exact OwnZ.mono (ownsRow_setCell_below (ownsRow_setCell_below (HR2.out.2.1.below g2) (by show w.heap.size < _; omega) _) (by show w.heap.size < _; omega) _) (by omega)
      · exact ((((Below.refl _ _).alloc (Nat.le_refl _) _).trans (g1.mono (by omega))).setCell (by exact Nat.le_refl _) _).setCell (by exact Nat.le_refl _) _
end Go.Proofs.Ytdpomoengbpcaaa
