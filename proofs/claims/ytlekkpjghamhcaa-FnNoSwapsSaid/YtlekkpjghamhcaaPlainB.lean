/- Plain: the keys in the order of spec.Arranged: their sort makes no exchange. -/
import Derived.Test.YtlekkpjghamhcaaPlainA
import Derived.Test.YtlekkpjghamhcaaStay
import Derived.Test.YtlekkpjghamhcaaTold
namespace Go.Proofs.Ytlekkpjghamhcaa
open Go.RowKit Go.Sort Go.Lib

def byKeys (os ks : List Int) : List Int := os.map fun i => ks.getD i.toNat 0
theorem byKeys_length (os ks : List Int) : (byKeys os ks).length = os.length := List.length_map ..
theorem byKeys_at (os ks : List Int) (p : Nat) (h : p < os.length) : (byKeys os ks).getD p 0 = ks.getD (os.getD p 0).toNat 0 := by
  unfold byKeys
  rw [List.getD_eq_getElem?_getD, List.getElem?_map, List.getElem?_eq_getElem h, List.getD_eq_getElem?_getD (l := os), List.getElem?_eq_getElem h]; rfl

theorem arranged_asc {N : Int} {zs : List Int} {P : Int → Prop} (hW : WeakK (sg N zs) P) (ks : List Int) (hks : ∀ k ∈ ks, P k) (p q : Nat) (hpq : p < q) (hq : q < ks.length) :
    ¬ sg N zs (ks.getD ((arrTo (sg N zs) ks ks.length).getD q 0).toNat 0) (ks.getD ((arrTo (sg N zs) ks ks.length).getD p 0).toNat 0) < 0 := by
  have hA := sorted_arranged hW ks hks
  unfold arrB at hA
  rw [Bool.and_eq_true, List.all_eq_true, arrTo_length] at hA
  have hat : ∀ i, i < ks.length → ((sorted (ltT N zs) (ents ks)).getD i (0, 0)).1 = ks.getD ((arrTo (sg N zs) ks ks.length).getD i 0).toNat 0 := fun i hi => by
    have := hA.2 i (List.mem_range.2 hi)
    unfold arrAt at this
    rw [Bool.and_eq_true, decide_eq_true_eq, decide_eq_true_eq] at this
    exact this.2
  rw [← hat q hq, ← hat p (by omega)]
  have hw : Weak (ltT N zs) (· ∈ ents ks) := hW.weak (ents_keys hks)
  have hperm : (sorted (ltT N zs) (ents ks)).Perm (ents ks) := sortedA_perm (ltT N zs) (ents ks)
  have hpw : (sorted (ltT N zs) (ents ks)).Pairwise (Rl (ltT N zs) (ents ks)) := sortedA_pairwise (ltT N zs) (ents ks) hw (ents_nodup ks)
  have hl : (sorted (ltT N zs) (ents ks)).length = ks.length := by rw [sorted_length, ents_length]
  have hR := List.pairwise_iff_getElem.1 hpw p q (by omega) (by omega) hpq
  have ep : (sorted (ltT N zs) (ents ks)).getD p (0, 0) = (sorted (ltT N zs) (ents ks))[p]'(by omega) := by rw [List.getD_eq_getElem?_getD, List.getElem?_eq_getElem (by omega)]; rfl
  have eq : (sorted (ltT N zs) (ents ks)).getD q (0, 0) = (sorted (ltT N zs) (ents ks))[q]'(by omega) := by rw [List.getD_eq_getElem?_getD, List.getElem?_eq_getElem (by omega)]; rfl
  rw [ep, eq, ← ltT_iff]
  rcases hR with h | h
  · rw [hw.asym _ _ (hperm.mem_iff.1 (List.getElem_mem _)) (hperm.mem_iff.1 (List.getElem_mem _)) h]; simp
  · rw [h.1]; simp

theorem noSwaps {N : Int} {zs : List Int} {P : Int → Prop} (hW : WeakK (sg N zs) P) (ks : List Int) (hks : ∀ k ∈ ks, P k) (k : Nat) (hk : k < (callsOf (ltT N zs) (ents (byKeys (arrTo (sg N zs) ks ks.length) ks))).length) :
    ((callsOf (ltT N zs) (ents (byKeys (arrTo (sg N zs) ks ks.length) ks))).getD k (0, 0, 0, false)).1 = 0 ∨ ((callsOf (ltT N zs) (ents (byKeys (arrTo (sg N zs) ks ks.length) ks))).getD k (0, 0, 0, false)).1 = 1 := by
  have hl : (byKeys (arrTo (sg N zs) ks ks.length) ks).length = ks.length := by rw [byKeys_length, arrTo_length]
  have hA : Asc (ltT N zs) ks.length (ents (byKeys (arrTo (sg N zs) ks ks.length) ks)).toArray := by
    intro p q hpq hq
    have e : ∀ i, i < ks.length → ((ents (byKeys (arrTo (sg N zs) ks ks.length) ks)).toArray[i]!).1 = ks.getD ((arrTo (sg N zs) ks ks.length).getD i 0).toNat 0 := fun i hi => by
      have := ents_at (byKeys (arrTo (sg N zs) ks ks.length) ks) i (by rw [hl]; exact hi)
      rw [getElem!_def, List.getElem?_toArray, this, byKeys_at _ _ _ (by rw [arrTo_length]; exact hi)]
    have h := arranged_asc hW ks hks p q hpq hq
    rw [← e q hq, ← e p (by omega), ← ltT_iff] at h
    simpa using h
  have hs := stable_stays (lt := ltT N zs) ks.length ⟨(ents (byKeys (arrTo (sg N zs) ks ks.length) ks)).toArray, []⟩ hA
  have h0 : nS (stable (ltT N zs) (ents (byKeys (arrTo (sg N zs) ks ks.length) ks)).length ⟨(ents (byKeys (arrTo (sg N zs) ks ks.length) ks)).toArray, []⟩) = 0 := by rw [ents_length, hl]; exact hs.2
  unfold callsOf at hk ⊢
  cases k with
  | zero => exact .inl rfl
  | succ k =>
    right
    rw [List.length_cons, List.length_map] at hk
    rw [List.getD_cons_succ, List.getD_eq_getElem?_getD, List.getElem?_map, List.getElem?_eq_getElem (by omega)]
    unfold nS at h0
    rw [List.countP_eq_zero] at h0
    have := h0 _ (List.getElem_mem (by omega : k < _))
    generalize (stable (ltT N zs) (ents (byKeys (arrTo (sg N zs) ks ks.length) ks)).length ⟨(ents (byKeys (arrTo (sg N zs) ks ks.length) ks)).toArray, []⟩).log[k]'(by omega) = e at this ⊢
    cases e with
    | less i j x y => rfl
    | swap i j => simp [Ev.isL] at this
end Go.Proofs.Ytlekkpjghamhcaa
