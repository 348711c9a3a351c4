/- Walks: sort.stable_func over two function values that are told by contracts: it does what stable does. -/
import Derived.Test.YtdpomoengbpcaaaFncC
namespace Go.Proofs.Ytdpomoengbpcaaa
open Go.RowKit Go.Sort Go.Lib

set_option maxHeartbeats 2000000 in
set_option maxRecDepth 1000000 in
theorem stable_fnc (lt : It → It → Bool) (tb ob sf : Nat) (sb : Array Value) (blk n : Nat) (w0 : World) (hF : FncOk lt tb ob sf sb blk n w0) (s : St It) (W : World) (hR : RowS blk n w0 s W) (hn : n ≤ 1000000) :
    Calls Try.prog 37 #[.agg #[.func (.func 32) #[] #[.pointer (some ⟨tb, 0, none⟩), .pointer (some ⟨ob, 0, none⟩)], .func (.func sf) #[] sb], .int .i64 n] W fun e w' => e = .returned (.tuple #[]) ∧ RowS blk n w0 (stable lt n s) w' := by
  obtain ⟨w1, hi, ho, hr, hbk⟩ := hF.enter hR
  have HX := Lib.hid hi
  have HR := Lib.hid hr
  have HBK := Lib.hid hbk
  have HI := Lib.hid (fun (a b : Nat) (t : St It) (W' : World) (h1 : RowS blk n w1 t W') (h3 : a ≤ b) (h4 : b ≤ n) => insertionSort_fnc lt tb ob sf sb blk n w1 ho a b t W' h1 h3 h4 hn)
  have HM := Lib.hid (fun (a m b : Nat) (t : St It) (W' : World) (h1 : RowS blk n w1 t W') (h3 : a < m) (h4 : m < b) (h5 : b ≤ n) => symMerge_fnc lt tb ob sf sb blk n hn (b - a + 1) w1 ho a m b t W' (by omega) h1 h3 h4 h5)
  clear hR hF hi ho hr hbk
  go_enter Try.func37, Try.ntmps37
  go_wp2
  go_loopg [5, 6] (n + 1) (fun g va vb wr => ∃ (a b : Nat) (t : St It), va = .int .i64 a ∧ vb = .int .i64 b ∧ a ≤ n ∧ b ≤ n + 20 ∧ a ≤ b ∧ n + 21 - b ≤ g ∧ Hid (RowS blk n w1 t wr ∧ insBlocks lt n a b t = insBlocks lt n 0 20 s))
  case atStart => exact ⟨0, 20, s, rfl, rfl, by omega, by omega, by omega, by omega, HR.out, rfl⟩
  case round =>
    obtain ⟨a, b, t, rfl, rfl, han, hbn, hab, hg, HT⟩ := hrel
    obtain ⟨x0, x1⟩ := HX.out.box HT.out.1
    by_cases hlt : b ≤ n
    · have hltz : (b : Int) ≤ (n : Int) := by omega
      go_wp2_with fail
      refine (HI.out a b t wr HT.out.1 hab hlt).mono ?_
      rintro e w' ⟨rfl, hR'⟩
      have HR' := Lib.hid hR'
      clear hR'
      go_wp2_with fail
      go_roundg (n + 21 - (b + 20))
      case measure => omega
      case rel => exact ⟨b, b + 20, insSort lt a b t, rfl, by go_num, hlt, by omega, by omega, by omega, (show Hid _ from ⟨HR'.out, by rw [← HT.out.2, insBlocks_go _ _ _ _ _ hlt]⟩)⟩
    · have hltz : ¬ (b : Int) ≤ (n : Int) := by omega
      have HB := Lib.hid (show insBlocks lt n 0 20 s = insSort lt a n t from by rw [← HT.out.2, insBlocks_stop _ _ _ _ _ hlt])
      go_wp2_with fail
      refine (HI.out a n t wr HT.out.1 han (Nat.le_refl _)).mono ?_
      rintro e w' ⟨rfl, hR'⟩
      have HR' := Lib.hid hR'
      clear hR' HT
      generalize insSort lt a n t = t1 at HR' HB
      clear hg hab
      go_wp2_with fail
      go_loopg [4, 5, 6, 7] (n + 1) (fun g vz va vb vm wr => ∃ (z : Nat) (t : St It), vz = .int .i64 z ∧ 20 ≤ z ∧ z ≤ 2 * n + 20 ∧ n + 1 - z ≤ g ∧ Hid (RowS blk n w1 t wr ∧ passes lt n z t = stable lt n s))
      case atStart => exact ⟨20, t1, rfl, by omega, by omega, by omega, HR'.out, by rw [← HB.out]; rfl⟩
      case round =>
        obtain ⟨z, t2, rfl, hz20, hzn, hg, HT2⟩ := hrel
        clear HR' HB
        by_cases hzlt : z < n
        · have hzz : (z : Int) < (n : Int) := by omega
          go_wp2_with fail
          go_loopg [5, 6] (n + 1) (fun g va vb wr => ∃ (a b : Nat) (t : St It), va = .int .i64 a ∧ vb = .int .i64 b ∧ a ≤ n ∧ b ≤ 3 * n ∧ b ≤ a + 2 * z ∧ a + 2 * z ≤ b ∧ n + 1 + 2 * z - b ≤ g + 1 ∧ Hid (RowS blk n w1 t wr ∧ mergePass lt n z a b t = mergePass lt n z 0 (2 * z) t2))
          case atStart => exact ⟨0, 2 * z, t2, rfl, by go_num, by omega, by omega, by omega, by omega, by omega, HT2.out.1, rfl⟩
          case round =>
            obtain ⟨a, b, t, rfl, rfl, han, hbn, hab1, hab2, hg3, HT3⟩ := hrel
            obtain ⟨y0, y1⟩ := HX.out.box HT3.out.1
            by_cases hb3 : b ≤ n
            · have hb3z : (b : Int) ≤ (n : Int) := by omega
              have hE := Lib.hid (show (a : Int) + z = ((a + z : Nat) : Int) from by omega)
              go_wp2_with fail
              have hcall := HM.out a (a + z) b t wr HT3.out.1 (by omega) (by omega) hb3
              rw [← hE.out] at hcall
              refine hcall.mono ?_
              clear hcall
              rintro e w' ⟨rfl, hR'⟩
              have HR3 := Lib.hid hR'
              clear hR'
              go_wp2_with fail
              go_roundg (n + 2 * z - (b + 2 * z))
              case measure => omega
              case rel => exact ⟨b, b + 2 * z, symMerge lt a (a + z) b t, rfl, by go_num, hb3, by omega, by omega, by omega, by omega, (show Hid _ from ⟨HR3.out, by rw [← HT3.out.2, mergePass_go _ _ _ _ _ _ (by omega) hb3]⟩)⟩
            · have hb3z : ¬ (b : Int) ≤ (n : Int) := by omega
              have hE := Lib.hid (show (a : Int) + z = ((a + z : Nat) : Int) from by omega)
              by_cases hm3 : a + z < n
              · have hm3z : (a : Int) + z < (n : Int) := by omega
                have HF := Lib.hid (show mergePass lt n z 0 (2 * z) t2 = symMerge lt a (a + z) n t from by rw [← HT3.out.2, mergePass_last _ _ _ _ _ _ hb3 hm3])
                go_wp2_with fail
                have hcall := HM.out a (a + z) n t wr HT3.out.1 (by omega) hm3 (Nat.le_refl _)
                rw [← hE.out] at hcall
                refine hcall.mono ?_
                clear hcall
                rintro e w' ⟨rfl, hR'⟩
                have HR3 := Lib.hid hR'
                clear hR'
                go_wp2_with fail
                go_roundg (n - z)
                case measure => omega
                case rel => exact ⟨z * 2, symMerge lt a (a + z) n t, by go_num, by omega, by omega, by omega, (show Hid _ from ⟨HR3.out, by rw [← HF.out, ← HT2.out.2, passes_go _ _ _ _ (by omega) hzlt]⟩)⟩
              · have hm3z : ¬ (a : Int) + z < (n : Int) := by omega
                have HF := Lib.hid (show mergePass lt n z 0 (2 * z) t2 = t from by rw [← HT3.out.2, mergePass_stop _ _ _ _ _ _ hb3 hm3])
                go_wp2_with fail
                go_roundg (n - z)
                case measure => omega
                case rel => exact ⟨z * 2, t, by go_num, by omega, by omega, by omega, (show Hid _ from ⟨HT3.out.1, by rw [← HF.out, ← HT2.out.2, passes_go _ _ _ _ (by omega) hzlt]⟩)⟩
        · have hzz : ¬ (z : Int) < (n : Int) := by omega
          go_wp2_with fail
          go_end0
          exact ⟨rfl, HBK.out _ _ (by rw [← HT2.out.2, passes_stop _ _ _ _ hzlt]; exact HT2.out.1)⟩
end Go.Proofs.Ytdpomoengbpcaaa
