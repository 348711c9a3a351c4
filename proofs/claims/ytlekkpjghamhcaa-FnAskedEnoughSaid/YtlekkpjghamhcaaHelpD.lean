/- Walks: laws.arranged, laws.same, spec.Arranged. -/
import Derived.Test.YtlekkpjghamhcaaHelpC
import Derived.Laws.MakeOwn
namespace Go.Proofs.Ytlekkpjghamhcaa
open Go.RowKit Go.Sort Go.Lib

/-- Entry i of the list is the one that the index k tells of. -/
def arrAt (xs : List It) (ks : List Int) (i : Nat) (k : Int) : Bool := decide ((xs.getD i (0, 0)).2 = k) && decide ((xs.getD i (0, 0)).1 = ks.getD k.toNat 0)
/-- What laws.arranged tells. -/
def arrB (xs : List It) (ks os : List Int) : Bool := decide (xs.length = os.length) && (List.range os.length).all fun i => arrAt xs ks i (os.getD i 0)

set_option maxHeartbeats 1000000 in
theorem arranged_any (b o n c : Nat) (A B : Option Addr) (m d r f : Nat) (xs : List It) (ks os : List Int) (w : World) (hx : ItemsR w b o n xs) (hk : IntsR w A m ks) (ho : IntsR w B r os) (hn : n ≤ 1000000) (hm : m ≤ 1000000) (hr : r ≤ 1000000)
    (hin : ∀ i, i < r → 0 ≤ os.getD i 0 ∧ os.getD i 0 < (m : Int)) :
    Calls Try.prog 16 #[.slice (some ⟨b, o, none⟩) n c, .slice A m d, .slice B r f] w fun e w' =>
      e = .returned (.bool (arrB xs ks os)) ∧ ∃ q, w' = w.drewN q := by
  have HX := Lib.hid hx
  have HK := Lib.hid hk
  have HO := Lib.hid ho
  have HI := Lib.hid hin
  have HA := Lib.hid (show arrB xs ks os = (decide (n = r) && (List.range r).all fun i => arrAt xs ks i (os.getD i 0)) from by unfold arrB; rw [hx.1, ho.1])
  clear hx hk ho hin
  by_cases hnr : n = r
  · have h1 : ((n : Int) != (r : Int)) = false := by rw [hnr]; simp
    have HNR := Lib.hid hnr
    clear hnr
    go_enter Try.func16, Try.ntmps16
    go_wp2
    go_loopg [16] r (fun g vi wr => ∃ (k q : Nat), vi = .int .i64 k ∧ k ≤ r ∧ r - k ≤ g ∧ wr = w.drewN q ∧ Hid (∀ i, i < k → arrAt xs ks i (os.getD i 0) = true))
    case atStart => exact ⟨0, 0, rfl, by omega, by omega, rfl, fun i hi => by omega⟩
    case round =>
      obtain ⟨k, q, rfl, hkr, hg, rfl, HR⟩ := hrel
      by_cases hlt : k < r
      · have hltz : (k : Int) < (r : Int) := by omega
        obtain ⟨bo, oo, rfl, hbo, hco⟩ := HO.out.2 (by omega)
        have hin' := HI.out k hlt
        obtain ⟨bk, ok, rfl, hbk, hck⟩ := HK.out.2 (by omega)
        have c1 : w.cell? ⟨bo, oo + k, none⟩ = some (.int .i64 (os.getD k 0)) := hco k hlt
        have c2 := HX.out.2.2 k (by rw [HNR.out]; exact hlt)
        have c3 : w.cell? ⟨bk, ok + (os.getD k 0).toNat, none⟩ = some (.int .i64 (ks.getD (os.getD k 0).toNat 0)) := hck _ (by omega)
        have HAT := Lib.hid (show arrAt xs ks k (os.getD k 0) = (decide ((xs.getD k (0, 0)).2 = os.getD k 0) && decide ((xs.getD k (0, 0)).1 = ks.getD (os.getD k 0).toNat 0)) from rfl)
        have hkn : (k : Int) < (n : Int) := by rw [HNR.out]; omega
        have HIX := Lib.hid (show ∃ x, x = os.getD k 0 from ⟨_, rfl⟩)
        obtain ⟨c2a, c2b⟩ := c2
        generalize xs.getD k (0, 0) = X at c2a c2b HAT
        generalize hy : os.getD k 0 = y at c1 c3 hin' HAT
        generalize ks.getD y.toNat 0 = z at c3 HAT
        have HY := Lib.hid hy
        obtain ⟨i1, i2⟩ := hin'
        clear hy hco hck HIX
        by_cases t1 : X.2 = y
        · by_cases t2 : X.1 = z
          · have b1 : (X.2 != y) = false := by simp [t1]
            have b2 : (X.1 != z) = false := by simp [t2]
            have HV := Lib.hid (show arrAt xs ks k (os.getD k 0) = true from by rw [HY.out, HAT.out]; simp [t1, t2])
            clear t1 t2
            go_wp2_with fail
            go_quiet (fail)
            go_wp2
            go_roundg (r - (k + 1))
            case measure => omega
            case rel =>
              refine ⟨k + 1, _, by go_num, by omega, Nat.le_refl _, rfl, (show Hid _ from ?_)⟩
              intro i hi
              by_cases e : i = k
              · rw [e]; exact HV.out
              · exact HR.out i (by omega)
          · have b1 : (X.2 != y) = false := by simp [t1]
            have b2 : (X.1 != z) = true := by simp [t2]
            have HV := Lib.hid (show arrAt xs ks k (os.getD k 0) = false from by rw [HY.out, HAT.out]; simp [t2])
            clear t1 t2
            go_wp2_with fail
            go_quiet (fail)
            go_wp2
            go_ret
            refine ⟨?_, q + nq, by rw [World.drewN_drewN]⟩
            rw [HA.out, show (List.range r).all (fun i => arrAt xs ks i (os.getD i 0)) = false from by rw [List.all_eq_false]; exact ⟨k, List.mem_range.2 hlt, by rw [HV.out]; simp⟩]
            simp
        · have b1 : (X.2 != y) = true := by simp [t1]
          have HV := Lib.hid (show arrAt xs ks k (os.getD k 0) = false from by rw [HY.out, HAT.out]; simp [t1])
          clear t1
          go_wp2_with fail
          go_quiet (fail)
          go_wp2
          go_ret
          refine ⟨?_, q + nq, by rw [World.drewN_drewN]⟩
          rw [HA.out, show (List.range r).all (fun i => arrAt xs ks i (os.getD i 0)) = false from by rw [List.all_eq_false]; exact ⟨k, List.mem_range.2 hlt, by rw [HV.out]; simp⟩]
          simp
      · have hltz : ¬ (k : Int) < (r : Int) := by omega
        have HE := Lib.hid (show (List.range r).all (fun i => arrAt xs ks i (os.getD i 0)) = true from by
          rw [List.all_eq_true]; intro i hi; exact HR.out i (by have := List.mem_range.1 hi; omega))
        go_wp2
        go_ret
        exact ⟨by rw [HA.out, HE.out, HNR.out]; simp, q, rfl⟩
  · have h1 : ((n : Int) != (r : Int)) = true := by rw [bne_iff_ne]; omega
    have HV := Lib.hid (show arrB xs ks os = false from by rw [HA.out]; simp [hnr])
    clear hnr
    go_enter Try.func16, Try.ntmps16
    go_wp2
    go_ret
    exact ⟨by rw [HV.out]; rfl, 0, rfl⟩
end Go.Proofs.Ytlekkpjghamhcaa
