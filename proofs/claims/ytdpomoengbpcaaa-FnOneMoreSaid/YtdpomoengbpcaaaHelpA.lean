/- Walks: spec.Sign, laws.entries, spec.Ranked. -/
import Derived.Test.YtdpomoengbpcaaaImpA
namespace Go.Proofs.Ytdpomoengbpcaaa
open Go.RowKit Go.Sort Go.Lib

def sgn (x : Int) : Int := if x < 0 then -1 else if 0 < x then 1 else 0

set_option maxHeartbeats 1000000 in
theorem Sign_any (N : Int) (A : Option Addr) (n c : Nat) (zs : List Int) (a b : Int) (w : World) (hz : IntsR w A n zs) (hn : n ≤ maxLen) :
    Calls Try.prog 15 #[.int .i64 N, .slice A n c, .int .i64 a, .int .i64 b] w fun e w' => e = .returned (.int .i64 (sgn (num N zs a b))) ∧ w = w' := by
  unfold maxLen at hn
  have HZ := Lib.hid hz
  have HN := Lib.hid (show num N zs a b = if a < 0 ∨ b < 0 ∨ N ≤ a ∨ N ≤ b ∨ 1000 < N ∨ (n : Int) ≤ a * N + b then 0 else zs.getD (a * N + b).toNat 0 from by rw [← hz.1]; rfl)
  clear hz
  by_cases h1 : a < 0
  · have HV := Lib.hid (show sgn (num N zs a b) = 0 from by rw [HN.out.trans (if_pos (.inl h1))]; rfl)
    go_enter Try.func15, Try.ntmps15
    go_wp2
    go_ret
    exact ⟨by rw [HV.out]; rfl, rfl⟩
  · by_cases h2 : b < 0
    · have HV := Lib.hid (show sgn (num N zs a b) = 0 from by rw [HN.out.trans (if_pos (.inr (.inl h2)))]; rfl)
      go_enter Try.func15, Try.ntmps15
      go_wp2
      go_ret
      exact ⟨by rw [HV.out]; rfl, rfl⟩
    · by_cases h3 : N ≤ a
      · have HV := Lib.hid (show sgn (num N zs a b) = 0 from by rw [HN.out.trans (if_pos (.inr (.inr (.inl h3))))]; rfl)
        go_enter Try.func15, Try.ntmps15
        go_wp2
        go_ret
        exact ⟨by rw [HV.out]; rfl, rfl⟩
      · by_cases h4 : N ≤ b
        · have HV := Lib.hid (show sgn (num N zs a b) = 0 from by rw [HN.out.trans (if_pos (.inr (.inr (.inr (.inl h4)))))]; rfl)
          go_enter Try.func15, Try.ntmps15
          go_wp2
          go_ret
          exact ⟨by rw [HV.out]; rfl, rfl⟩
        · by_cases h5 : 1000 < N
          · have HV := Lib.hid (show sgn (num N zs a b) = 0 from by rw [HN.out.trans (if_pos (.inr (.inr (.inr (.inr (.inl h5))))))]; rfl)
            go_enter Try.func15, Try.ntmps15
            go_wp2
            go_ret
            exact ⟨by rw [HV.out]; rfl, rfl⟩
          · obtain ⟨m1, m2, m3, m4⟩ := mul_bound (a := a) (b := b) (N := N) (by omega) (by omega) (by omega) (by omega) (by omega)
            by_cases h6 : (n : Int) ≤ a * N + b
            · have HV := Lib.hid (show sgn (num N zs a b) = 0 from by rw [HN.out.trans (if_pos (.inr (.inr (.inr (.inr (.inr h6))))))]; rfl)
              go_enter Try.func15, Try.ntmps15
              go_wp2
              go_ret
              exact ⟨by rw [HV.out]; rfl, rfl⟩
            · have HV := Lib.hid (HN.out.trans (if_neg (by omega)))
              obtain ⟨bk, o, rfl, hb, hc⟩ := HZ.out.2 (by omega)
              have hcell := hc (a * N + b).toNat (by omega)
              generalize zs.getD (a * N + b).toNat 0 = x at hcell HV
              have m5 : a * N + b < (n : Int) := by omega
              clear hc
              by_cases x1 : x < 0
              · have HS := Lib.hid (show sgn (num N zs a b) = -1 from by rw [HV.out]; unfold sgn; rw [if_pos x1])
                go_enter Try.func15, Try.ntmps15
                go_wp2
                go_ret
                exact ⟨by rw [HS.out]; rfl, rfl⟩
              · by_cases x2 : 0 < x
                · have HS := Lib.hid (show sgn (num N zs a b) = 1 from by rw [HV.out]; unfold sgn; rw [if_neg x1, if_pos x2])
                  go_enter Try.func15, Try.ntmps15
                  go_wp2
                  go_ret
                  exact ⟨by rw [HS.out]; rfl, rfl⟩
                · have HS := Lib.hid (show sgn (num N zs a b) = 0 from by rw [HV.out]; unfold sgn; rw [if_neg x1, if_neg x2])
                  go_enter Try.func15, Try.ntmps15
                  go_wp2
                  go_ret
                  exact ⟨by rw [HS.out]; rfl, rfl⟩

/-- The keys as entries: the tag is the index. -/
def ents (ks : List Int) : List It := ks.zipIdx.map fun p => (p.1, (p.2 : Int))
theorem ents_length (ks : List Int) : (ents ks).length = ks.length := by simp [ents]
theorem ents_take_succ (ks : List Int) (k : Nat) (h : k < ks.length) : (ents ks).take (k + 1) = (ents ks).take k ++ [(ks.getD k 0, (k : Int))] := by
  rw [List.take_succ_eq_append_getElem (by rw [ents_length]; exact h)]
  congr 2
  simp [ents, List.getD_eq_getElem?_getD, List.getElem?_eq_getElem h]

set_option maxHeartbeats 400000 in
theorem entries_any (A : Option Addr) (n c : Nat) (ks : List Int) (w : World) (hk : IntsR w A n ks) (hn : n ≤ 1000000) :
    Calls Try.prog 12 #[.slice A n c] w fun e w' =>
      ∃ b' c', e = .returned (.slice (some ⟨b', 0, none⟩) n c') ∧ OwnI w' w.heap.size b' c' (ents ks) ∧ Below w.heap.size w w' := by
  have HK := Lib.hid hk
  have HL := Lib.hid hk.1
  clear hk
  go_enter Try.func12, Try.ntmps12
  go_wp2
  go_loopg [3, 9] n (fun g v vi wr => ∃ (k b c : Nat), v = .slice (some ⟨b, 0, none⟩) k c ∧ vi = .int .i64 k ∧ k ≤ n ∧ n - k ≤ g ∧ Hid (k = ((ents ks).take k).length ∧ OwnI wr w.heap.size b c ((ents ks).take k) ∧ Below w.heap.size w wr))
  case atStart => exact ⟨0, w.heap.size, 0, rfl, rfl, by omega, by omega, by simp, by rw [List.take_zero]; exact OwnI.made w, (Below.refl _ _).alloc (Nat.le_refl _) _⟩
  case round =>
    obtain ⟨k, b, c, rfl, rfl, hkn, hg, HR⟩ := hrel
    by_cases hlt : k < n
    · have hltz : (k : Int) < (n : Int) := by omega
      obtain ⟨bk, o, rfl, hb, hc⟩ := HK.out.2 (by omega)
      have hcell : wr.cell? ⟨bk, o + k, none⟩ = some (.int .i64 (ks.getD k 0)) := (HR.out.2.2.cell (p := ⟨bk, o + k, none⟩) hb).trans (hc k hlt)
      have HT := Lib.hid (ents_take_succ ks k (by rw [HL.out]; exact hlt))
      generalize ks.getD k 0 = x at hcell HT
      have HO := Lib.hid (And.intro HR.out.1 (HR.out.2.1.alloc (.cells #[.int .i64 x, .int .i64 k] 35)))
      have HS := Lib.hid (ItemsR.one wr x k)
      have hbb : w.heap.size ≤ b := HR.out.2.1.lt.1
      have hsz : w.heap.size ≤ wr.heap.size := HR.out.2.2.size
      clear hc hb
      go_wp2_with (at_builtin; refine wpList_appI rfl (.tmp 14) (.tmp 18) rfl w.heap.size b c k ((ents ks).take k) rfl HO.out wr.heap.size 0 1 1 [(x, (k : Int))] rfl HS.out (by omega) (by simp; omega) ?_; intro b1 c1 w1 hown1 hgrow1)
      go_roundg (n - (k + 1))
      case measure => omega
      case rel =>
        refine ⟨k + 1, b1, c1, rfl, by go_num, by omega, Nat.le_refl _, (show Hid _ from ?_)⟩
        rw [HT.out]
        exact ⟨hown1.out.1, hown1.out.2, below_app (HR.out.2.2.alloc hsz _) hgrow1.out (by simp; omega) hbb⟩
    · have hltz : ¬ (k : Int) < (n : Int) := by omega
      have he : k = n := by omega
      have HE := Lib.hid he
      clear he
      go_wp2
      go_ret
      have e1 : (ents ks).take k = ents ks := List.take_of_length_le (by rw [ents_length, HL.out, HE.out]; exact Nat.le_refl _)
      have h2 := HR.out
      rw [e1] at h2
      exact ⟨b, c, by rw [HE.out]; rfl, h2.2.1, h2.2.2⟩
end Go.Proofs.Ytdpomoengbpcaaa
