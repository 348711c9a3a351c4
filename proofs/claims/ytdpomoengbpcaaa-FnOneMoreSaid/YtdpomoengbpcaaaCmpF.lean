/- Walks: slices.stableCmpFunc and SortStableFunc at entries: they do what stable does. -/
import Derived.Test.YtdpomoengbpcaaaCmpE
namespace Go.Proofs.Ytdpomoengbpcaaa
open Go.RowKit Go.Sort Go.Lib

set_option maxHeartbeats 2000000 in
set_option maxRecDepth 1000000 in
theorem stable_cmp (blk tb n cap : Nat) (w0 : World) (cf : It → It → Int) (hC : CmpGives tb cf blk w0) (s : St It) (W : World) (hR : RowR blk w0 s.d W) (hs : s.d.size = n) (hn : n ≤ 1000000) :
    Calls Try.prog 34 #[.slice (some ⟨blk, 0, none⟩) n cap, .int .i64 n, .func (.func 29) #[] #[.pointer (some ⟨tb, 0, none⟩)]] W fun e w' =>
      e = .returned (.tuple #[]) ∧ RowR blk w0 (stable (ltI cf) n s).d w' := by
  have HR := Lib.hid hR
  have HS := Lib.hid hs
  have HC := Lib.hid hC
  have HI := Lib.hid (fun (a b : Nat) (t : St It) (W' : World) (h1 : RowR blk w0 t.d W') (h2 : t.d.size = n) (h3 : a ≤ b) (h4 : b ≤ n) => insertionSort_cmp blk tb n cap w0 cf hC a b t W' h1 h2 h3 h4 (by omega))
  have HM := Lib.hid (fun (a m b : Nat) (t : St It) (W' : World) (h1 : RowR blk w0 t.d W') (h2 : t.d.size = n) (h3 : a < m) (h4 : m < b) (h5 : b ≤ n) => symMerge_cmp blk tb n cap w0 cf hC (by omega) (b - a + 1) a m b t W' (by omega) h1 h2 h3 h4 h5)
  have HZ := Lib.hid (And.intro (fun (a b : Nat) (t : St It) => (insSort_run (ltI cf) a b t).size) (fun (a m b : Nat) (t : St It) (h1 : a < m) (h2 : m < b) => (symMerge_run (ltI cf) _ a m b t rfl h1 h2).size))
  clear hR hs hC
  go_enter Try.func34, Try.ntmps34
  go_wp2
  go_loopg [7, 8] (n + 1) (fun g va vb wr => ∃ (a b : Nat) (t : St It), va = .int .i64 a ∧ vb = .int .i64 b ∧ a ≤ n ∧ b ≤ n + 20 ∧ a ≤ b ∧ n + 21 - b ≤ g ∧ Hid (t.d.size = n ∧ RowR blk w0 t.d wr ∧ insBlocks (ltI cf) n a b t = insBlocks (ltI cf) n 0 20 s))
  case atStart => exact ⟨0, 20, s, rfl, rfl, by omega, by omega, by omega, by omega, HS.out, HR.out, rfl⟩
  case round =>
    obtain ⟨a, b, t, rfl, rfl, han, hbn, hab, hg, HT⟩ := hrel
    by_cases hlt : b ≤ n
    · have hltz : (b : Int) ≤ (n : Int) := by omega
      go_wp2_with fail
      refine (HI.out a b t wr HT.out.2.1 HT.out.1 hab hlt).mono ?_
      rintro e w' ⟨rfl, hR'⟩
      have HR' := Lib.hid hR'
      clear hR'
      go_wp2_with fail
      go_roundg (n + 21 - (b + 20))
      case measure => omega
      case rel =>
        refine ⟨b, b + 20, insSort (ltI cf) a b t, rfl, by go_num, hlt, by omega, by omega, by omega, (show Hid _ from ?_)⟩
        exact ⟨(HZ.out.1 a b t).trans HT.out.1, HR'.out, by rw [← HT.out.2.2, insBlocks_go _ _ _ _ _ hlt]⟩
    · have hltz : ¬ (b : Int) ≤ (n : Int) := by omega
      have HB := Lib.hid (show insBlocks (ltI cf) n 0 20 s = insSort (ltI cf) a n t from by rw [← HT.out.2.2, insBlocks_stop _ _ _ _ _ hlt])
      go_wp2_with fail
      refine (HI.out a n t wr HT.out.2.1 HT.out.1 han (Nat.le_refl _)).mono ?_
      rintro e w' ⟨rfl, hR'⟩
      have HR' := Lib.hid (And.intro ((HZ.out.1 a n t).trans HT.out.1) hR')
      clear hR' HT
      generalize insSort (ltI cf) a n t = t1 at HR' HB
      clear hg hab
      go_wp2_with fail
      go_loopg [6, 7, 8, 9] (n + 1) (fun g vz va vb vm wr => ∃ (z : Nat) (t : St It), vz = .int .i64 z ∧ 20 ≤ z ∧ z ≤ 2 * n + 20 ∧ n + 1 - z ≤ g ∧ Hid (t.d.size = n ∧ RowR blk w0 t.d wr ∧ passes (ltI cf) n z t = stable (ltI cf) n s))
      case atStart => exact ⟨20, t1, rfl, by omega, by omega, by omega, HR'.out.1, HR'.out.2, by rw [← HB.out]; rfl⟩
      case round =>
        obtain ⟨z, t2, rfl, hz20, hzn, hg, HT2⟩ := hrel
        clear HR' HB
        by_cases hzlt : z < n
        · have hzz : (z : Int) < (n : Int) := by omega
          go_wp2_with fail
          go_loopg [7, 8] (n + 1) (fun g va vb wr => ∃ (a b : Nat) (t : St It), va = .int .i64 a ∧ vb = .int .i64 b ∧ a ≤ n ∧ b ≤ 3 * n ∧ b ≤ a + 2 * z ∧ a + 2 * z ≤ b ∧ n + 1 + 2 * z - b ≤ g + 1 ∧ Hid (t.d.size = n ∧ RowR blk w0 t.d wr ∧ mergePass (ltI cf) n z a b t = mergePass (ltI cf) n z 0 (2 * z) t2))
          case atStart => exact ⟨0, 2 * z, t2, rfl, by go_num, by omega, by omega, by omega, by omega, by omega, HT2.out.1, HT2.out.2.1, rfl⟩
          case round =>
            obtain ⟨a, b, t, rfl, rfl, han, hbn, hab1, hab2, hg3, HT3⟩ := hrel
            by_cases hb3 : b ≤ n
            · have hb3z : (b : Int) ≤ (n : Int) := by omega
              have hE := Lib.hid (show (a : Int) + z = ((a + z : Nat) : Int) from by omega)
              go_wp2_with fail
              have hcall := HM.out a (a + z) b t wr HT3.out.2.1 HT3.out.1 (by omega) (by omega) hb3
              rw [← hE.out] at hcall
              refine hcall.mono ?_
              clear hcall
              rintro e w' ⟨rfl, hR'⟩
              have HR3 := Lib.hid hR'
              clear hR'
              go_wp2_with fail
              go_roundg (n + 2 * z - (b + 2 * z))
              case measure => omega
              case rel =>
                refine ⟨b, b + 2 * z, symMerge (ltI cf) a (a + z) b t, rfl, by go_num, hb3, by omega, by omega, by omega, by omega, (show Hid _ from ?_)⟩
                exact ⟨(HZ.out.2 a (a + z) b t (by omega) (by omega)).trans HT3.out.1, HR3.out, by rw [← HT3.out.2.2, mergePass_go _ _ _ _ _ _ (by omega) hb3]⟩
            · have hb3z : ¬ (b : Int) ≤ (n : Int) := by omega
              have hE := Lib.hid (show (a : Int) + z = ((a + z : Nat) : Int) from by omega)
              by_cases hm3 : a + z < n
              · have hm3z : (a : Int) + z < (n : Int) := by omega
                have HF := Lib.hid (show mergePass (ltI cf) n z 0 (2 * z) t2 = symMerge (ltI cf) a (a + z) n t from by rw [← HT3.out.2.2, mergePass_last _ _ _ _ _ _ hb3 hm3])
                go_wp2_with fail
                have hcall := HM.out a (a + z) n t wr HT3.out.2.1 HT3.out.1 (by omega) hm3 (Nat.le_refl _)
                rw [← hE.out] at hcall
                refine hcall.mono ?_
                clear hcall
                rintro e w' ⟨rfl, hR'⟩
                have HR3 := Lib.hid hR'
                clear hR'
                go_wp2_with fail
                go_roundg (n - z)
                case measure => omega
                case rel =>
                  refine ⟨z * 2, symMerge (ltI cf) a (a + z) n t, by go_num, by omega, by omega, by omega, (show Hid _ from ?_)⟩
                  exact ⟨(HZ.out.2 a (a + z) n t (by omega) hm3).trans HT3.out.1, HR3.out, by rw [← HF.out, ← HT2.out.2.2, passes_go _ _ _ _ (by omega) hzlt]⟩
              · have hm3z : ¬ (a : Int) + z < (n : Int) := by omega
                have HF := Lib.hid (show mergePass (ltI cf) n z 0 (2 * z) t2 = t from by rw [← HT3.out.2.2, mergePass_stop _ _ _ _ _ _ hb3 hm3])
                go_wp2_with fail
                go_roundg (n - z)
                case measure => omega
                case rel =>
                  refine ⟨z * 2, t, by go_num, by omega, by omega, by omega, (show Hid _ from ?_)⟩
                  exact ⟨HT3.out.1, HT3.out.2.1, by rw [← HF.out, ← HT2.out.2.2, passes_go _ _ _ _ (by omega) hzlt]⟩
        · have hzz : ¬ (z : Int) < (n : Int) := by omega
          go_wp2_with fail
          go_end0
          exact ⟨rfl, by rw [← HT2.out.2.2, passes_stop _ _ _ _ hzlt]; exact HT2.out.2.1⟩

set_option maxHeartbeats 400000 in
theorem SortStableFunc_any (blk tb n cap : Nat) (w0 : World) (cf : It → It → Int) (hC : CmpGives tb cf blk w0) (s : St It) (W : World) (hR : RowR blk w0 s.d W) (hs : s.d.size = n) (hn : n ≤ 1000000) :
    Calls Try.prog 28 #[.slice (some ⟨blk, 0, none⟩) n cap, .func (.func 29) #[] #[.pointer (some ⟨tb, 0, none⟩)]] W fun e w' =>
      e = .returned (.tuple #[]) ∧ RowR blk w0 (stable (ltI cf) n s).d w' := by
  have H := Lib.hid (stable_cmp blk tb n cap w0 cf hC s W hR hs hn)
  clear hC hR hs
  go_enter Try.func28, Try.ntmps28
  go_wp2_with fail
  refine H.out.mono ?_
  rintro e w' ⟨rfl, hR'⟩
  have HR' := Lib.hid hR'
  clear hR'
  go_wp2_with fail
  go_end0
  exact ⟨rfl, HR'.out⟩
end Go.Proofs.Ytdpomoengbpcaaa
