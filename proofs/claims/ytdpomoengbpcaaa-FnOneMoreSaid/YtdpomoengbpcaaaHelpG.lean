/- Walks: the laws' little helpers that make lists: tags, turned, by, modest, negated. -/
import Derived.Test.YtdpomoengbpcaaaBox
namespace Go.Proofs.Ytdpomoengbpcaaa
open Go.RowKit Go.Sort Go.Lib

theorem map_take_succ {α β : Type} (f : α → β) (l : List α) (k : Nat) (d : α) (h : k < l.length) : (l.map f).take (k + 1) = (l.map f).take k ++ [f (l.getD k d)] := by
  rw [List.take_succ_eq_append_getElem (by simpa using h), List.getElem_map, getD_at l d k h]

set_option maxHeartbeats 400000 in
theorem modest_any (A : Option Addr) (n c : Nat) (ks : List Int) (w : World) (hk : IntsR w A n ks) (hn : n ≤ 17592186044415) :
    Calls Try.prog 19 #[.slice A n c] w fun e w' =>
      ∃ b' c', e = .returned (.slice (some ⟨b', 0, none⟩) n c') ∧ IntsR w' (some ⟨b', 0, none⟩) n (ks.map fun r => r.tmod 1000) ∧ n ≤ c' ∧ Below w.heap.size w w' := by
  have HK := Lib.hid hk
  have HL := Lib.hid hk.1
  clear hk
  go_enter Try.func19, Try.ntmps19
  go_wp2
  go_loopg [3, 9] n (fun g v vi wr => ∃ (k b c : Nat), v = .slice (some ⟨b, 0, none⟩) k c ∧ vi = .int .i64 k ∧ k ≤ n ∧ n - k ≤ g ∧ Hid (k = ((ks.map fun r => r.tmod 1000).take k).length ∧ OwnZ wr w.heap.size b c ((ks.map fun r => r.tmod 1000).take k) ∧ Below w.heap.size w wr))
  case atStart => exact ⟨0, w.heap.size, 0, rfl, rfl, by omega, by omega, by simp, by rw [List.take_zero]; exact OwnZ.made w, (Below.refl _ _).alloc (Nat.le_refl _) _⟩
  case round =>
    obtain ⟨k, b, c, rfl, rfl, hkn, hg, HR⟩ := hrel
    by_cases hlt : k < n
    · have hltz : (k : Int) < (n : Int) := by omega
      obtain ⟨bk, o, rfl, hb, hc⟩ := HK.out.2 (by omega)
      have hcell : wr.cell? ⟨bk, o + k, none⟩ = some (.int .i64 (ks.getD k 0)) := (HR.out.2.2.cell (p := ⟨bk, o + k, none⟩) hb).trans (hc k hlt)
      have HT := Lib.hid (map_take_succ (fun r : Int => r.tmod 1000) ks k 0 (by rw [HL.out]; exact hlt))
      generalize ks.getD k 0 = x at hcell HT
      have HO := Lib.hid (And.intro HR.out.1 (HR.out.2.1.alloc (.cells #[.int .i64 (x.tmod 1000)] 3)))
      have HS := Lib.hid (IntsR.one wr (x.tmod 1000))
      have hbb : w.heap.size ≤ b := HR.out.2.1.lt.1
      have hsz : w.heap.size ≤ wr.heap.size := HR.out.2.2.size
      have t1 := Int.tmod_lt_of_pos x (show (0 : Int) < 1000 by decide)
      have t2 := Int.lt_tmod_of_pos x (show (0 : Int) < 1000 by decide)
      have hw1 : IntKind.i64.wrap (x.tmod 1000) = x.tmod 1000 := by rw [IntKind.wrap_i64]; omega
      clear hc hb
      go_wp2_with (at_builtin; refine wpList_appZ rfl (.tmp 13) (.tmp 16) rfl w.heap.size b c k _ rfl HO.out wr.heap.size 0 1 1 [x.tmod 1000] rfl HS.out (by omega) (by simp; omega) ?_; intro b1 c1 w1 hown1 hgrow1)
      go_roundg (n - (k + 1))
      case measure => omega
      case rel =>
        refine ⟨k + 1, b1, c1, rfl, by go_num, by omega, Nat.le_refl _, (show Hid _ from ?_)⟩
        rw [HT.out]
        exact ⟨hown1.out.1, hown1.out.2, below_app (HR.out.2.2.alloc hsz _) hgrow1.out (by simp; omega) hbb⟩
    · have hltz : ¬ (k : Int) < (n : Int) := by omega
      have he : k = n := by omega
      have HE := Lib.hid he
      clear he
      go_wp2
      go_ret
      have h2 := HR.out
      have hL : (ks.map fun r : Int => r.tmod 1000).length = n := by rw [List.length_map]; exact HL.out
      rw [HE.out, List.take_of_length_le (by rw [hL]; exact Nat.le_refl _)] at h2
      have hi := h2.2.1.ints
      rw [hL] at hi
      refine ⟨b, c, by rw [← HE.out]; rfl, hi, ?_, h2.2.2⟩
      rcases h2.2.1.2 with ⟨e, _⟩ | ⟨g, cap, cur, e, h3, r⟩
      · injection e with e; cases e
      · injection e with e1 e2 e3; have := r.1; omega
set_option maxHeartbeats 400000 in
theorem by_any (b0 m c0 : Nat) (xs : List It) (A : Option Addr) (n c : Nat) (os : List Int) (w : World) (hx : ItemsR w b0 0 m xs) (hk : IntsR w A n os) (hin : ∀ i, i < n → 0 ≤ os.getD i 0 ∧ os.getD i 0 < (m : Int)) (hn : n ≤ 1000000) (_hm : m ≤ 1000000) :
    Calls Try.prog 17 #[.slice (some ⟨b0, 0, none⟩) m c0, .slice A n c] w fun e w' =>
      ∃ b' c', e = .returned (.slice (some ⟨b', 0, none⟩) n c') ∧ ItemsR w' b' 0 n (os.map fun i => xs.getD i.toNat (0, 0)) ∧ Below w.heap.size w w' := by
  have HX := Lib.hid hx
  have HK := Lib.hid hk
  have HL := Lib.hid hk.1
  have HI := Lib.hid hin
  clear hx hk hin
  go_enter Try.func17, Try.ntmps17
  go_wp2
  go_loopg [5, 11] n (fun g v vi wr => ∃ (k b c : Nat), v = .slice (some ⟨b, 0, none⟩) k c ∧ vi = .int .i64 k ∧ k ≤ n ∧ n - k ≤ g ∧ Hid (k = ((os.map fun i => xs.getD i.toNat (0, 0)).take k).length ∧ OwnI wr w.heap.size b c ((os.map fun i => xs.getD i.toNat (0, 0)).take k) ∧ Below w.heap.size w wr))
  case atStart => exact ⟨0, w.heap.size, 0, rfl, rfl, by omega, by omega, by simp, by rw [List.take_zero]; exact OwnI.made w, (Below.refl _ _).alloc (Nat.le_refl _) _⟩
  case round =>
    obtain ⟨k, b, c, rfl, rfl, hkn, hg, HR⟩ := hrel
    by_cases hlt : k < n
    · have hltz : (k : Int) < (n : Int) := by omega
      obtain ⟨bk, o, rfl, hb, hc⟩ := HK.out.2 (by omega)
      have hcell : wr.cell? ⟨bk, o + k, none⟩ = some (.int .i64 (os.getD k 0)) := (HR.out.2.2.cell (p := ⟨bk, o + k, none⟩) hb).trans (hc k hlt)
      have HT := Lib.hid (map_take_succ (fun i : Int => xs.getD i.toNat (0, 0)) os k 0 (by rw [HL.out]; exact hlt))
      obtain ⟨g1, g2⟩ := HI.out k hlt
      generalize os.getD k 0 = z at hcell HT g1 g2
      obtain ⟨x1, x2⟩ := (HX.out.below HR.out.2.2).2.2 z.toNat (by omega)
      simp only [Nat.zero_add] at x1 x2
      generalize xs.getD z.toNat (0, 0) = x at x1 x2 HT
      have HO := Lib.hid (And.intro HR.out.1 (HR.out.2.1.alloc (.cells #[.int .i64 x.1, .int .i64 x.2] 35)))
      have HS := Lib.hid (ItemsR.one wr x.1 x.2)
      have hbb : w.heap.size ≤ b := HR.out.2.1.lt.1
      have hsz : w.heap.size ≤ wr.heap.size := HR.out.2.2.size
      clear hc hb
      go_wp2_with (at_builtin; refine wpList_appI rfl (.tmp 15) (.tmp 20) rfl w.heap.size b c k _ rfl HO.out wr.heap.size 0 1 1 [(x.1, x.2)] rfl HS.out (by omega) (by simp; omega) ?_; intro b1 c1 w1 hown1 hgrow1)
      go_roundg (n - (k + 1))
      case measure => omega
      case rel =>
        refine ⟨k + 1, b1, c1, rfl, by go_num, by omega, Nat.le_refl _, (show Hid _ from ?_)⟩
        rw [HT.out]
        exact ⟨hown1.out.1, hown1.out.2, below_app (HR.out.2.2.alloc hsz _) hgrow1.out (by simp; omega) hbb⟩
    · have hltz : ¬ (k : Int) < (n : Int) := by omega
      have he : k = n := by omega
      have HE := Lib.hid he
      clear he
      go_wp2
      go_ret
      have h2 := HR.out
      have hL : (os.map fun i => xs.getD i.toNat (0, 0)).length = n := by rw [List.length_map]; exact HL.out
      rw [HE.out, List.take_of_length_le (by rw [hL]; exact Nat.le_refl _)] at h2
      have hi := h2.2.1.items
      rw [hL] at hi
      first
        | exact ⟨b, c, by rw [← HE.out]; rfl, hi, h2.2.2⟩
        | exact ⟨b, ⟨c, by rw [← HE.out]; rfl⟩, hi, h2.2.2⟩
end Go.Proofs.Ytdpomoengbpcaaa
