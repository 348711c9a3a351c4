/- Walks: laws.FnNumbers returns true. -/
import Derived.Test.YtdpomoengbpcaaaHelpG
import Derived.Deep.AppendLies
namespace Go.Proofs.Ytdpomoengbpcaaa
open Go.RowKit Go.Sort Go.Lib

/-- An append of one number, with where the new slice lies. -/
theorem wpList_appZL {ops : Array Oper} {rest : List Oper} {op : Oper} {a : Act} {w : World} {Q : Exit → Act → World → Prop} (hgd : op.guard = none) (s x : Operand)
    (ho : op.op = .call { callee := .builtin .append, args := #[s, x], argTypes := #[22, 22] })
    (base b c n : Nat) (xs : List Int) (hs : a.eval s = .slice (some ⟨b, 0, none⟩) n c) (hown : Hid (n = xs.length ∧ OwnZ w base b c xs))
    (b2 o2 d : Nat) (y : Int) (hx : a.eval x = .slice (some ⟨b2, o2, none⟩) 1 d) (hr : Hid (IntsR w (some ⟨b2, o2, none⟩) 1 [y])) (hlen : n + 1 ≤ 17592186044416) (hbase : base ≤ w.heap.size)
    (h : ∀ b' c' w', Hid (n + 1 = (xs ++ [y]).length ∧ OwnZ w' base b' c' (xs ++ [y]) ∧ (b' = b ∨ b' = w.heap.size)) → Hid (w.grownBy w' (some b)) → wpList Try.prog ops Q rest (a.put op.dst (.slice (some ⟨b', 0, none⟩) (n + 1) c')) w') : wpList Try.prog ops Q (op :: rest) a w := by
  obtain ⟨i0, hi, hz0, hz1, hz2⟩ := info_parts info_int
  obtain ⟨hn, hown'⟩ := hown.out
  subst hn
  have hr' := hr.out
  refine wpList_append_lies w hgd s x 22 ho base 3 i0 _ 1 8 Try.underlying22 hi hz0 hz1 hz2 rfl (by decide) _ xs.length (xs.map (Value.int .i64)) hs hown' ⟨b2, o2, none⟩ 1 d ([y].map (Value.int .i64)) hx (by rw [List.length_map, hr'.1]) hr'.news (ints_one [y]) (by omega) (by unfold maxLen; omega) (by omega) hbase w.heap.size rfl ?_
  intro g cap w' h1 h2 h3 h4
  rw [← List.map_append] at h1
  have hl : xs.length + 1 = (xs ++ [y]).length := by simp
  refine h g cap w' ⟨hl, ?_, ?_⟩ h2
  · unfold OwnZ; rw [← hl]; exact h1
  · rcases h3 with h3 | h3
    · left; simp [Value.ownBlock] at h3; exact h3.symm
    · exact .inr h3
theorem OwnZ.other {w W : World} {base b c r : Nat} {zs : List Int} (h : OwnZ w base b c zs) (hg : w.grownBy W (some r)) (hne : b ≠ r) : OwnZ W base b c zs :=
  World.ownsRow.kept (row := some r) h hg (.inr (by simp [Value.ownBlock]; exact hne))

theorem sgn_no (x y : Int) (hx : ¬ 0 < x) (hy : y = if x < 0 then -1 else 0) : sgn x = y := by
  unfold sgn; rw [if_neg hx]; exact hy.symm

/-- Tables of the same signs give the same order. -/
theorem ltT_map (N : Int) (zs : List Int) (f : Int → Int) (h0 : f 0 = 0) (hf : ∀ x, f x < 0 ↔ x < 0) : ltT N (zs.map f) = ltT N zs := by
  funext x y
  unfold ltT
  have : num N (zs.map f) x.1 y.1 = f (num N zs x.1 y.1) := by
    unfold num
    rw [List.length_map]
    split
    · exact h0.symm
    · rw [List.getD_eq_getElem?_getD, List.getElem?_map, List.getD_eq_getElem?_getD]
      cases zs[(x.1 * N + y.1).toNat]? with
      | none => exact h0.symm
      | some v => rfl
  rw [this]
  exact decide_eq_decide.2 (hf _)

set_option maxHeartbeats 4000000 in
set_option maxRecDepth 100000 in
theorem FnNumbers_said {n : Nat} (hs : n ≤ 17592186044415) (w : World) (N : Int) (_wN : (Lit.int .i64 N).wf = true) {A B : Option Addr} {c m d : Nat} {zs ks : List Int} (hz : IntsR w A n zs) (hnc : n ≤ c) (hc : c ≤ maxLen) (hk : IntsR w B m ks) (hmd : m ≤ d) (hd : d ≤ maxLen) (tm : Int) (_wt : (Lit.int .i64 tm).wf = true) :
    Calls Try.prog 3 #[.int .i64 N, .slice A n c, .slice B m d, .int .i64 tm] w fun e w' => e = .returned (.bool true) ∧ Below w.heap.size w w' := by
  have hn : n ≤ maxLen := Nat.le_trans hnc hc
  have HC := Lib.hid (fits_any N A n c zs B m d ks w hz hn hk (Nat.le_trans hmd hd))
  have HZ := Lib.hid hz
  have HK := Lib.hid hk
  have HN := Lib.hid hn
  have HL := Lib.hid hz.1
  clear hz hk hn hnc hc hmd hd
  go_enter Try.func3, Try.ntmps3
  go_wp2_with fail
  refine HC.out.mono ?_
  rintro e w' ⟨r, rfl, hr, rfl⟩
  cases r with
  | false =>
    clear hr
    go_wp2_with fail
    go_ret
    exact ⟨rfl, Below.refl _ _⟩
  | true =>
    obtain ⟨f1, _, _, _, _⟩ := hr rfl
    have hm3 : m ≤ 3000 := by have := HK.out.1; omega
    clear hr f1 HC
    by_cases h1 : tm < 1
    · go_wp2_with fail
      go_ret
      exact ⟨rfl, Below.refl _ _⟩
    by_cases h2 : 1000000 < tm
    · go_wp2_with fail
      go_ret
      exact ⟨rfl, Below.refl _ _⟩
    have HP := Lib.hid (show ltT N (zs.map sgn) = ltT N zs from ltT_map N zs sgn rfl (fun x => sgn_neg x))
    have HG := Lib.hid (show ltT N (zs.map fun x => sgn x * tm) = ltT N zs from ltT_map N zs _ (by show sgn 0 * tm = 0; rw [show sgn 0 = 0 from rfl, Int.zero_mul]) (fun x => by
      have h3 : sgn x = -1 ∨ sgn x = 0 ∨ sgn x = 1 := sgn_three x
      have h4 := sgn_neg x
      rcases h3 with e | e | e <;> rw [e] at h4 ⊢ <;> omega))
    go_wp2_with fail
    go_loopg [9, 10, 34] n (fun g vp vg vi wr => ∃ (k b c' b' c'' : Nat), vp = .slice (some ⟨b, 0, none⟩) k c' ∧ vg = .slice (some ⟨b', 0, none⟩) k c'' ∧ vi = .int .i64 k ∧ k ≤ n ∧ n - k ≤ g ∧ Hid (k = ((zs.map sgn).take k).length ∧ OwnZ wr w.heap.size b c' ((zs.map sgn).take k) ∧ k = ((zs.map fun x => sgn x * tm).take k).length ∧ OwnZ wr w.heap.size b' c'' ((zs.map fun x => sgn x * tm).take k) ∧ b ≠ b' ∧ Below w.heap.size w wr))
    case atStart =>
      refine ⟨0, w.heap.size, 0, w.heap.size + 1, 0, rfl, rfl, rfl, by omega, by omega, by simp, ?_, by simp, ?_, by omega, ?_⟩
      · rw [List.take_zero]; exact (OwnZ.made w).alloc _
      · rw [List.take_zero]
        have := OwnZ.made (w.alloc (.cells #[] 3))
        rw [World.size_alloc] at this
        exact this.mono (by omega)
      · exact (below_a w _).alloc (by simp) _
    case round =>
      obtain ⟨k, b, c', b', c'', rfl, rfl, rfl, hkn, hg, HR⟩ := hrel
      by_cases hlt : k < n
      · have hltz : (k : Int) < (n : Int) := by omega
        obtain ⟨bk, o, rfl, hb, hc⟩ := HZ.out.2 (by omega)
        have hcell : wr.cell? ⟨bk, o + k, none⟩ = some (.int .i64 (zs.getD k 0)) := (HR.out.2.2.2.2.2.cell (p := ⟨bk, o + k, none⟩) hb).trans (hc k hlt)
        have HT1 := Lib.hid (map_take_succ sgn zs k 0 (by rw [HL.out]; exact hlt))
        have HT2 := Lib.hid (map_take_succ (fun x => sgn x * tm) zs k 0 (by rw [HL.out]; exact hlt))
        generalize zs.getD k 0 = x at hcell HT1 HT2
        clear hc hb
        go_upto_if 41 with fail
        go_cut [12] (fun v wx => ∃ y : Int, v = .int .i64 y ∧ Hid (y = if x < 0 then -1 else 0) ∧ wx = wr)
        case first =>
          by_cases hx : x < 0
          · go_wp2_with fail
            go_meet
            exact ⟨-1, rfl, (show Hid _ from by show (-1 : Int) = _; rw [if_pos (by omega)]), rfl⟩
          · go_wp2_with fail
            go_meet
            exact ⟨0, rfl, (show Hid _ from by show (0 : Int) = _; rw [if_neg (by omega)]), rfl⟩
        case rest =>
          obtain ⟨y, rfl, HY, rfl⟩ := hcut
          go_upto_if 46 with fail
          go_cut [12] (fun v wx => v = .int .i64 (sgn x) ∧ wx = wc)
          case first =>
            by_cases hx : 0 < x
            · have HE := Lib.hid (show sgn x = 1 by unfold sgn; rw [if_neg (by omega), if_pos hx])
              go_wp2_with fail
              go_meet
              exact ⟨by rw [HE.out], rfl⟩
            · have HE := Lib.hid (sgn_no x y hx HY.out)
              go_wp2_with fail
              go_meet
              exact ⟨by rw [HE.out], rfl⟩
          case rest =>
            obtain ⟨rfl, rfl⟩ := hcut
            have hs3 := sgn_three x
            generalize sgn x = s at HT1 HT2 hs3 ⊢
            have hsb : -1000000 ≤ s * tm ∧ s * tm ≤ 1000000 := by rcases hs3 with rfl | rfl | rfl <;> omega
            obtain ⟨hsb1, hsb2⟩ := hsb
            have hwz : IntKind.i64.wrap (s * tm) = s * tm := by rw [IntKind.wrap_i64]; omega
            have hbb : w.heap.size ≤ b := HR.out.2.1.lt.1
            have hbb' : w.heap.size ≤ b' := HR.out.2.2.2.1.lt.1
            have hbl : b < wc.heap.size := HR.out.2.1.lt.2
            have hbl' : b' < wc.heap.size := HR.out.2.2.2.1.lt.2
            have hsz : w.heap.size ≤ wc.heap.size := HR.out.2.2.2.2.2.size
            have HO := Lib.hid (And.intro HR.out.1 (HR.out.2.1.alloc (.cells #[.int .i64 s] 3)))
            have HS := Lib.hid (IntsR.one wc s)
            clear hs3
            go_wp2_with (first
              | (at_builtin; refine wpList_appZL rfl (.tmp 47) (.tmp 49) rfl w.heap.size b c' k _ rfl HO.out wc.heap.size 0 1 s rfl HS.out (by omega) (by simp; omega) ?_; intro b1 c1 w1 hown1 hgrow1; have HG1 := Lib.hid ((HR.out.2.2.2.1.alloc (.cells #[.int .i64 s] 3)).other hgrow1.out HR.out.2.2.2.2.1.symm); have HB1 := Lib.hid (show Below w.heap.size w w1 from below_app (HR.out.2.2.2.2.2.alloc hsz _) hgrow1.out (by simp; omega) hbb); have HO2 := Lib.hid (And.intro HR.out.2.2.1 (HG1.out.alloc (.cells #[.int .i64 (s * tm)] 3))); have HS2 := Lib.hid (IntsR.one w1 (s * tm)); have hs1 : w.heap.size ≤ w1.heap.size := HB1.out.size)
              | (at_builtin; refine wpList_appZL rfl (.tmp 51) (.tmp 55) rfl w.heap.size b' c'' k _ rfl HO2.out w1.heap.size 0 1 (s * tm) rfl HS2.out (by omega) (by simp; omega) ?_; intro b2 c2 w2 hown2 hgrow2))
            go_roundg (n - (k + 1))
            case measure => omega
            case rel =>
              have hne := HR.out.2.2.2.2.1
              have hl1 := hown1.out.2.2
              rw [World.size_alloc] at hl1
              have hl2 := hown2.out.2.2
              rw [World.size_alloc] at hl2
              have hn1 : b1 ≠ b' := by omega
              have hb1l := hown1.out.2.1.lt
              refine ⟨k + 1, b1, c1, b2, c2, rfl, rfl, by go_num, by omega, Nat.le_refl _, (show Hid _ from ?_)⟩
              rw [HT1.out, HT2.out]
              exact ⟨hown1.out.1, (hown1.out.2.1.alloc _).other hgrow2.out hn1, hown2.out.1, hown2.out.2.1, by omega, below_app (HB1.out.alloc hs1 _) hgrow2.out (by simp; omega) hbb'⟩
      · have hltz : ¬ (k : Int) < (n : Int) := by omega
        obtain rfl : k = n := by omega
        have hL1 : (zs.map sgn).length = k := by rw [List.length_map]; exact HL.out
        have hL2 : (zs.map fun x => sgn x * tm).length = k := by rw [List.length_map]; exact HL.out
        have hp : IntsR wr (some ⟨b, 0, none⟩) k (zs.map sgn) := by
          have h := HR.out.2.1
          rw [List.take_of_length_le (by omega)] at h
          have := h.ints; rw [hL1] at this; exact this
        have hgz : IntsR wr (some ⟨b', 0, none⟩) k (zs.map fun x => sgn x * tm) := by
          have h := HR.out.2.2.2.1
          rw [List.take_of_length_le (by omega)] at h
          have := h.ints; rw [hL2] at this; exact this
        have HPI := Lib.hid hp
        have HGI := Lib.hid hgz
        have HB := Lib.hid HR.out.2.2.2.2.2
        have HK1 := Lib.hid (HK.out.below HB.out)
        have HZ1 := Lib.hid (HZ.out.below HB.out)
        clear hp hgz hL1 hL2 HR hg HK HZ
        go_wp2_with fail
        refine (entries_tab B m d ks wr HK1.out (by omega)).mono ?_
        rintro e w3 ⟨b3, c3, rfl, hit3, hl3, hc3, hb3⟩
        have H3 := Lib.hid (And.intro hit3 hb3)
        clear hit3 hl3 hc3 hb3
        go_wp2_with fail
        refine (roads_any N A k c zs b3 0 m c3 (ents ks) w3 (HZ1.out.below H3.out.2) HN.out H3.out.1 (by omega)).mono ?_
        rintro e w4 ⟨r0, q0, r1, q1, r2, q2, rfl, hrd, hb4⟩
        have hb4' := H3.out.2.trans (hb4.mono H3.out.2.size)
        have hba := hb4'.alloc hb4'.size (.cells #[.slice (some ⟨r0, 0, none⟩) m q0, .slice (some ⟨r1, 0, none⟩) m q1, .slice (some ⟨r2, 0, none⟩) m q2] 25)
        have HA := Lib.hid (Box3.made (c0 := q0) (c1 := q1) (c2 := q2) hrd)
        have HKA := Lib.hid (HK1.out.below hba)
        have HPA := Lib.hid (HPI.out.below hba)
        have HGA := Lib.hid (HGI.out.below hba)
        have HBA := Lib.hid (HB.out.trans (hba.mono HB.out.size))
        clear hrd hb4 hb4' hba H3 HB HK1 HZ1 HPI HGI
        go_wp2_with fail
        generalize w4.alloc (.cells #[.slice (some ⟨r0, 0, none⟩) m q0, .slice (some ⟨r1, 0, none⟩) m q1, .slice (some ⟨r2, 0, none⟩) m q2] 25) = wa at HA HKA HPA HGA HBA ⊢
        generalize w4.heap.size = ab at HA ⊢
        refine (entries_tab B m d ks wa HKA.out (by omega)).mono ?_
        rintro e w5 ⟨b5, c5, rfl, hit5, hl5, hc5, hb5⟩
        have H5 := Lib.hid (And.intro hit5 hb5)
        clear hit5 hl5 hc5 hb5
        go_wp2_with fail
        refine (roads_any N _ k c' (zs.map sgn) b5 0 m c5 (ents ks) w5 (HPA.out.below H5.out.2) HN.out H5.out.1 (by omega)).mono ?_
        rintro e w6 ⟨s0, t0, s1, t1, s2, t2, rfl, hrd, hb6⟩
        rw [HP.out] at hrd
        have hb6' := H5.out.2.trans (hb6.mono H5.out.2.size)
        have hbb := hb6'.alloc hb6'.size (.cells #[.slice (some ⟨s0, 0, none⟩) m t0, .slice (some ⟨s1, 0, none⟩) m t1, .slice (some ⟨s2, 0, none⟩) m t2] 25)
        have HBx := Lib.hid (Box3.made (c0 := t0) (c1 := t1) (c2 := t2) hrd)
        have HA2 := Lib.hid (HA.out.below hbb)
        have HKB := Lib.hid (HKA.out.below hbb)
        have HGB := Lib.hid (HGA.out.below hbb)
        have HBB := Lib.hid (HBA.out.trans (hbb.mono HBA.out.size))
        clear hrd hb6 hb6' hbb H5 HA HKA HPA HGA HBA
        go_wp2_with fail
        generalize w6.alloc (.cells #[.slice (some ⟨s0, 0, none⟩) m t0, .slice (some ⟨s1, 0, none⟩) m t1, .slice (some ⟨s2, 0, none⟩) m t2] 25) = wb at HBx HA2 HKB HGB HBB ⊢
        generalize w6.heap.size = bb at HBx ⊢
        refine (entries_tab B m d ks wb HKB.out (by omega)).mono ?_
        rintro e w7 ⟨b7, c7, rfl, hit7, hl7, hc7, hb7⟩
        have H7 := Lib.hid (And.intro hit7 hb7)
        clear hit7 hl7 hc7 hb7
        go_wp2_with fail
        refine (roads_any N _ k c'' (zs.map fun x => sgn x * tm) b7 0 m c7 (ents ks) w7 (HGB.out.below H7.out.2) HN.out H7.out.1 (by omega)).mono ?_
        rintro e w8 ⟨u0, v0, u1, v1, u2, v2, rfl, hrd, hb8⟩
        rw [HG.out] at hrd
        have hb8' := H7.out.2.trans (hb8.mono H7.out.2.size)
        have hbc := hb8'.alloc hb8'.size (.cells #[.slice (some ⟨u0, 0, none⟩) m v0, .slice (some ⟨u1, 0, none⟩) m v1, .slice (some ⟨u2, 0, none⟩) m v2] 25)
        have HCx := Lib.hid (Box3.made (c0 := v0) (c1 := v1) (c2 := v2) hrd)
        have HA3 := Lib.hid (HA2.out.below hbc)
        have HB3 := Lib.hid (HBx.out.below hbc)
        have HBC := Lib.hid (HBB.out.trans (hbc.mono HBB.out.size))
        clear hrd hb8 hb8' hbc H7 HA2 HKB HGB HBB HBx HP HG
        go_wp2_with fail
        generalize w8.alloc (.cells #[.slice (some ⟨u0, 0, none⟩) m v0, .slice (some ⟨u1, 0, none⟩) m v1, .slice (some ⟨u2, 0, none⟩) m v2] 25) = wc at HCx HA3 HB3 HBC ⊢
        generalize w8.heap.size = cb at HCx ⊢
        generalize sorted (ltT N zs) (ents ks) = S at HCx HA3 HB3
        go_loopg [76] 3 (fun g vi wr => ∃ (i : Nat), vi = .int .i64 i ∧ i ≤ 3 ∧ 3 - i ≤ g ∧ Hid (Below wc.heap.size wc wr))
        case atStart => exact ⟨0, rfl, by omega, by omega, Below.refl _ _⟩
        case round =>
          obtain ⟨i, rfl, hi3, hg, HR⟩ := hrel
          by_cases hlt2 : i < 3
          · have hltz2 : (i : Int) < 3 := by omega
            obtain ⟨xa, ca, ya, hia⟩ := (HA3.out.below HR.out).at hlt2
            obtain ⟨xb, cb', yb, hib⟩ := (HB3.out.below HR.out).at hlt2
            obtain ⟨xc, cc', yc, hic⟩ := (HCx.out.below HR.out).at hlt2
            have HI := Lib.hid (And.intro hia (And.intro hib hic))
            clear hia hib hic
            go_upto_region 22 with fail
            go_region_held3 (fun w' => w'.cell? ⟨ab, i, none⟩ = some (.slice (some ⟨xa, 0, none⟩) m ca) ∧ w'.cell? ⟨bb, i, none⟩ = some (.slice (some ⟨xb, 0, none⟩) m cb') ∧ w'.cell? ⟨cb, i, none⟩ = some (.slice (some ⟨xc, 0, none⟩) m cc')) (go_keep)
              (first
                | (go_at_call_of 13 (Value.slice (some ⟨xb, 0, none⟩) m cb'); refine (same_eq xa 0 m ca xb 0 cb' S _ (by exact HI.out.1) (by exact HI.out.2.1) (by omega)).mono ?_; rintro e wx ⟨rfl, qq, rfl⟩)
                | (go_at_call 13; refine (same_eq xa 0 m ca xc 0 cc' S _ (by exact HI.out.1) (by exact HI.out.2.2) (by omega)).mono ?_; rintro e wy ⟨rfl, qr, rfl⟩))
            go_wp2_with fail
            go_roundg (3 - (i + 1))
            case measure => omega
            case rel => exact ⟨i + 1, by go_num, by omega, Nat.le_refl _, (show Hid _ from ⟨HR.out.os, HR.out.tape, HR.out.output, HR.out.size, HR.out.block⟩)⟩
          · have hltz2 : ¬ (i : Int) < 3 := by omega
            go_wp2_with fail
            go_ret
            exact ⟨rfl, HBC.out.trans (HR.out.mono HBC.out.size)⟩
end Go.Proofs.Ytdpomoengbpcaaa
