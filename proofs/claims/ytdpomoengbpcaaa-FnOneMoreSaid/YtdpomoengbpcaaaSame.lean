/- Walks: laws.same. -/
import Derived.Test.YtdpomoengbpcaaaTold
import Derived.WalkLawsBesides
namespace Go.Proofs.Ytdpomoengbpcaaa
open Go.RowKit Go.Sort Go.Lib

set_option maxHeartbeats 1000000 in
set_option maxRecDepth 100000 in
theorem same_eq (b o n c b' o' c' : Nat) (xs : List It) (w : World) (hx : ItemsR w b o n xs) (hy : ItemsR w b' o' n xs) (hn : n ≤ 1000000) :
    Calls Try.prog 13 #[.slice (some ⟨b, o, none⟩) n c, .slice (some ⟨b', o', none⟩) n c'] w fun e w' => e = .returned (.bool true) ∧ ∃ q, w' = w.drewN q := by
  have HX := Lib.hid hx
  have HY := Lib.hid hy
  clear hx hy
  go_enter Try.func13, Try.ntmps13
  go_wp2
  go_loopg [13] n (fun g vi wr => ∃ (k q : Nat), vi = .int .i64 k ∧ k ≤ n ∧ n - k ≤ g ∧ wr = w.drewN q)
  case atStart => exact ⟨0, 0, rfl, by omega, by omega, rfl⟩
  case round =>
    obtain ⟨k, q, rfl, hkr, hg, rfl⟩ := hrel
    by_cases hlt : k < n
    · have hltz : (k : Int) < (n : Int) := by omega
      obtain ⟨x1, x2⟩ := HX.out.2.2 k hlt
      obtain ⟨y1, y2⟩ := HY.out.2.2 k hlt
      generalize xs.getD k (0, 0) = X at x1 x2 y1 y2
      go_wp2_with fail
      go_quiet (fail)
      go_wp2
      go_roundg (n - (k + 1))
      case measure => omega
      case rel => exact ⟨k + 1, _, by go_num, by omega, Nat.le_refl _, rfl⟩
    · have hltz : ¬ (k : Int) < (n : Int) := by omega
      go_wp2
      go_ret
      exact ⟨rfl, q, rfl⟩
end Go.Proofs.Ytdpomoengbpcaaa
