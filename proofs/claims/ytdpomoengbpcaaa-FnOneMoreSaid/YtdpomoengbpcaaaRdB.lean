/- Plain laws for the roads at entries of keys. -/
import Derived.Test.YtdpomoengbpcaaaPlainA
import Derived.Test.YtdpomoengbpcaaaRd
namespace Go.Proofs.Ytdpomoengbpcaaa
open Go.RowKit Go.Sort Go.Lib

theorem getD_at {α : Type} (l : List α) (d : α) (p : Nat) (h : p < l.length) : l.getD p d = l[p] := by
  rw [List.getD_eq_getElem?_getD, List.getElem?_eq_getElem h]; rfl

/-- Two neighbours of the sorted list. -/
theorem asc_at {N : Int} {zs : List Int} {P : Int → Prop} (hW : WeakK (sg N zs) P) (ks : List Int) (hks : ∀ k ∈ ks, P k) (p : Nat) (hp : p + 1 < ks.length) :
    sg N zs ((sorted (ltT N zs) (ents ks)).getD p (0, 0)).1 ((sorted (ltT N zs) (ents ks)).getD (p + 1) (0, 0)).1 < 0 ∨
    (sg N zs ((sorted (ltT N zs) (ents ks)).getD p (0, 0)).1 ((sorted (ltT N zs) (ents ks)).getD (p + 1) (0, 0)).1 = 0 ∧ ((sorted (ltT N zs) (ents ks)).getD p (0, 0)).2 < ((sorted (ltT N zs) (ents ks)).getD (p + 1) (0, 0)).2) := by
  have hw : Weak (ltT N zs) (· ∈ ents ks) := hW.weak (ents_keys hks)
  have hpw : (sorted (ltT N zs) (ents ks)).Pairwise (Rl (ltT N zs) (ents ks)) := sortedA_pairwise (ltT N zs) (ents ks) hw (ents_nodup ks)
  have hperm : (sorted (ltT N zs) (ents ks)).Perm (ents ks) := sortedA_perm (ltT N zs) (ents ks)
  have hl : (sorted (ltT N zs) (ents ks)).length = ks.length := by rw [sorted_length, ents_length]
  have hR := List.pairwise_iff_getElem.1 hpw p (p + 1) (by omega) (by omega) (by omega)
  rw [getD_at _ _ p (by omega), getD_at _ _ (p + 1) (by omega)]
  have hx := hperm.mem_iff.1 (List.getElem_mem (l := sorted (ltT N zs) (ents ks)) (n := p) (by omega))
  have hy := hperm.mem_iff.1 (List.getElem_mem (l := sorted (ltT N zs) (ents ks)) (n := p + 1) (by omega))
  generalize (sorted (ltT N zs) (ents ks))[p]'(by omega) = x at hR hx
  generalize (sorted (ltT N zs) (ents ks))[p + 1]'(by omega) = y at hR hy
  rcases hR with h | ⟨h1, h2⟩
  · exact .inl ((ltT_iff N zs x y).1 h)
  · by_cases hs : sg N zs x.1 y.1 < 0
    · exact .inl hs
    · refine .inr ⟨?_, ?_⟩
      · have a1 := hW.anti x.1 y.1 (ents_keys hks x hx) (ents_keys hks y hy)
        have a2 : ¬ sg N zs y.1 x.1 < 0 := fun h => by rw [(ltT_iff N zs y x).2 h] at h1; cases h1
        omega
      · obtain ⟨i, hi, rfl⟩ := ents_mem hx
        obtain ⟨j, hj, rfl⟩ := ents_mem hy
        have := (ents_bef hi hj).1 h2
        show (i : Int) < (j : Int)
        omega
/-- No number but 0: nothing moves. -/
theorem num_zero (N : Int) (n : Nat) (a b : Int) : num N (List.replicate n 0) a b = 0 := by
  unfold num
  split
  · rfl
  · rw [List.getD_eq_getElem?_getD, List.getElem?_replicate]; split <;> rfl
theorem sorted_zero (N : Int) (n : Nat) (xs : List It) : sorted (ltT N (List.replicate n 0)) xs = xs := sortedA_equal fun x y => by
  unfold ltT; rw [num_zero]; rfl
end Go.Proofs.Ytdpomoengbpcaaa
