/- Walks: laws.FnNoSwaps returns true. -/
import Derived.Test.YtlekkpjghamhcaaPlainB
import Derived.Deep.RegionHeld3
import Derived.Deep.AppendLies
namespace Go.Proofs.Ytlekkpjghamhcaa
open Go.RowKit Go.Sort Go.Lib

/-- An append of one number, with where the new slice lies. -/
theorem wpList_appZL {ops : Array Oper} {rest : List Oper} {op : Oper} {a : Act} {w : World} {Q : Exit → Act → World → Prop} (hgd : op.guard = none) (s x : Operand)
    (ho : op.op = .call { callee := .builtin .append, args := #[s, x], argTypes := #[22, 22] })
    (base b c n : Nat) (xs : List Int) (hs : a.eval s = .slice (some ⟨b, 0, none⟩) n c) (hown : Hid (n = xs.length ∧ OwnZ w base b c xs))
    (b2 o2 d : Nat) (y : Int) (hx : a.eval x = .slice (some ⟨b2, o2, none⟩) 1 d) (hr : Hid (IntsR w (some ⟨b2, o2, none⟩) 1 [y])) (hlen : n + 1 ≤ 17592186044416) (hbase : base ≤ w.heap.size)
    (h : ∀ b' c' w', Hid (n + 1 = (xs ++ [y]).length ∧ OwnZ w' base b' c' (xs ++ [y]) ∧ (b' = b ∨ b' = w.heap.size)) → Hid (w.grownBy w' (some b)) → wpList Try.prog ops Q rest (a.put op.dst (.slice (some ⟨b', 0, none⟩) (n + 1) c')) w') : wpList Try.prog ops Q (op :: rest) a w := by
  obtain ⟨i0, hi, hz0, hz1, hz2⟩ := info_parts info_int
  obtain ⟨hn, hown'⟩ := hown.out
  subst hn
  have hr' := hr.out
  refine wpList_append_lies w hgd s x 22 ho base 3 i0 _ 1 8 Try.underlying22 hi hz0 hz1 hz2 rfl (by decide) _ xs.length (xs.map (Value.int .i64)) hs hown' ⟨b2, o2, none⟩ 1 d ([y].map (Value.int .i64)) hx (by rw [List.length_map, hr'.1]) hr'.news (ints_one [y]) (by omega) (by unfold maxLen; omega) (by omega) hbase w.heap.size rfl ?_
  intro g cap w' h1 h2 h3 h4
  rw [← List.map_append] at h1
  have hl : xs.length + 1 = (xs ++ [y]).length := by simp
  refine h g cap w' ⟨hl, ?_, ?_⟩ h2
  · unfold OwnZ; rw [← hl]; exact h1
  · rcases h3 with h3 | h3
    · left; simp [Value.ownBlock] at h3; exact h3.symm
    · exact .inr h3

theorem byKeys_take (os ks : List Int) (k : Nat) (h : k < os.length) : byKeys (os.take (k + 1)) ks = byKeys (os.take k) ks ++ [ks.getD (os.getD k 0).toNat 0] := by
  unfold byKeys
  rw [List.take_add_one, List.getElem?_eq_getElem h, List.map_append, List.getD_eq_getElem?_getD (l := os), List.getElem?_eq_getElem h]; rfl
theorem IntsR.grownBy {w W : World} {b o n r : Nat} {zs : List Int} (h : IntsR w (some ⟨b, o, none⟩) n zs) (hg : w.grownBy W (some r)) (hb : b < w.heap.size) (hne : b ≠ r) : IntsR W (some ⟨b, o, none⟩) n zs := by
  refine ⟨h.1, fun hn => ?_⟩
  obtain ⟨b', o', e, h1, h2⟩ := h.2 hn
  injection e with e
  injection e with e1 e2
  subst e1 e2
  exact ⟨b, o, rfl, Nat.lt_of_lt_of_le h1 hg.size, fun i hi => (World.cell?_of_block (hg.block b hb (fun e => by injection e with e; exact hne e))).trans (h2 i hi)⟩

set_option maxHeartbeats 20000000 in
set_option maxRecDepth 100000 in
theorem FnNoSwaps_walk (A B : Option Addr) (n c m d : Nat) (zs ks : List Int) (w : World) (hz : IntsR w A n zs) (hk : IntsR w B m ks) (hn : n ≤ maxLen) (hnc : n ≤ c) (hm : m ≤ maxLen) (hmd : m ≤ d) :
    Calls Try.prog 8 #[.slice A n c, .slice B m d] w fun e w' => e = .returned (.bool true) ∧ Below w.heap.size w w' := by
  have HC := Lib.hid (ranked_any A B n c m d zs ks w hz hk hn hnc hm hmd)
  clear hz hk hn hnc hm hmd
  have hz3 : (zs.take 300).length ≤ 300 := by rw [List.length_take]; omega
  generalize zs.take 300 = rs at HC hz3
  have hkin := rankKeys_in rs.length ks
  have hkle := rankKeys_le rs.length ks
  have hrl := rankT_length rs
  generalize rankKeys rs.length ks = k at HC hkin hkle
  have hW := rank_weak rs (by omega)
  have hself : ∀ i, i < k.length → 0 ≤ sg (rs.length : Int) (rankT rs) (k.getD i 0) (k.getD i 0) := fun i hi => by
    have hm : k.getD i 0 ∈ k := by rw [List.getD_eq_getElem?_getD, List.getElem?_eq_getElem hi]; exact List.getElem_mem hi
    have := hW.anti _ _ (hkin _ hm) (hkin _ hm); omega
  have hin := arrTo_in (sg (rs.length : Int) (rankT rs)) k k.length (Nat.le_refl _)
  have hno := fun q hq => noSwaps hW k hkin q hq
  have hol := arrTo_length (sg (rs.length : Int) (rankT rs)) k k.length
  have hLm : (rankT rs).length ≤ maxLen := by
    rw [hrl]; have := Nat.mul_le_mul hz3 hz3; unfold maxLen; omega
  have HF := Lib.hid (And.intro hself (And.intro hin (And.intro hLm (And.intro hno hol))))
  clear hkin hW hself hin hrl hLm hno hol
  go_enter Try.func8, Try.ntmps8
  go_wp2_with fail
  refine HC.out.mono ?_
  rintro e w1 ⟨b1, c1, L, b2, c2, M, rfl, hL, hM, hownT, hownK, hb1⟩
  have HO := Lib.hid (And.intro hL (And.intro hM (And.intro hownT (And.intro hownK hb1))))
  clear hL hM hownT hownK hb1 HC
  go_wp2_with fail
  have x0 : (w1.alloc (.cells #[.int .i64 (rs.length : Int), .slice (some ⟨b1, 0, none⟩) L c1] 24)).cell? ⟨w1.heap.size, 0, none⟩ = some (.int .i64 (rs.length : Int)) := by simp
  have x1 : (w1.alloc (.cells #[.int .i64 (rs.length : Int), .slice (some ⟨b1, 0, none⟩) L c1] 24)).cell? ⟨w1.heap.size, 1, none⟩ = some (.slice (some ⟨b1, 0, none⟩) L c1) := by simp
  have s1 : (w1.alloc (.cells #[.int .i64 (rs.length : Int), .slice (some ⟨b1, 0, none⟩) L c1] 24)).heap.size = w1.heap.size + 1 := by simp
  have hI : IntsR (w1.alloc (.cells #[.int .i64 (rs.length : Int), .slice (some ⟨b1, 0, none⟩) L c1] 24)) (some ⟨b1, 0, none⟩) L (rankT rs) := by rw [HO.out.1]; exact HO.out.2.2.1.ints.alloc _
  have hK : IntsR (w1.alloc (.cells #[.int .i64 (rs.length : Int), .slice (some ⟨b1, 0, none⟩) L c1] 24)) (some ⟨b2, 0, none⟩) M k := by rw [HO.out.2.1]; exact HO.out.2.2.2.1.ints.alloc _
  have hB : Below w.heap.size w (w1.alloc (.cells #[.int .i64 (rs.length : Int), .slice (some ⟨b1, 0, none⟩) L c1] 24)) := HO.out.2.2.2.2.alloc HO.out.2.2.2.2.size _
  have hwl : w.heap.size ≤ w1.heap.size := HO.out.2.2.2.2.size
  have hb1l : b1 < w1.heap.size := HO.out.2.2.1.lt.2
  have hb2l : b2 < w1.heap.size := HO.out.2.2.2.1.lt.2
  have hML := HO.out.2.1
  have hLL := HO.out.1
  generalize w1.alloc (.cells #[.int .i64 (rs.length : Int), .slice (some ⟨b1, 0, none⟩) L c1] 24) = w2 at x0 x1 s1 hI hK hB ⊢
  generalize w1.heap.size = tb at x0 x1 s1 hwl hb1l hb2l ⊢
  have HI := Lib.hid hI
  have HK := Lib.hid hK
  have HB := Lib.hid hB
  have HM := Lib.hid (And.intro hML hLL)
  have hM3 : M ≤ 3000 := by omega
  have own0 := OwnZ.made w2
  rw [s1] at own0
  have HOW := Lib.hid own0
  have HX := Lib.hid (And.intro x0 x1)
  clear hI hK hB hML hLL HO own0 x0 x1
  refine (Arranged_any _ _ L c1 (rankT rs) _ M c2 k _ (HI.out.alloc _) (by rw [HM.out.2]; exact HF.out.2.2.1) (HK.out.alloc _) (by omega) (by rw [HM.out.1]; exact HF.out.1)).mono ?_
  rintro e w3 ⟨b5, c5, rfl, hown5, hb5⟩
  have hs3 : tb + 2 ≤ w3.heap.size := by have := hb5.size; rw [World.size_alloc, s1] at this; omega
  have hb5l := hown5.lt
  rw [World.size_alloc, s1] at hb5l
  have hbel : Below w2.heap.size w2 w3 := ((Below.refl _ _).alloc (Nat.le_refl _) _).trans (hb5.mono (by simp))
  have hio := hown5.ints
  rw [arrTo_length, ← HM.out.1] at hio
  have H3 := Lib.hid (And.intro hio (And.intro (HI.out.below hbel) (And.intro (HK.out.below hbel) (And.intro (HOW.out.below hb5) hbel))))
  rw [HM.out.1] at H3
  have HIN := Lib.hid HF.out.2.1
  have HNO := Lib.hid HF.out.2.2.2.1
  have HOL := Lib.hid HF.out.2.2.2.2
  have HLM := Lib.hid HF.out.2.2.1
  generalize arrTo (sg (rs.length : Int) (rankT rs)) k k.length = os at H3 HIN HNO HOL
  clear hown5 hb5 hbel hio HF HI HK HOW
  have hkM := HM.out.1
  rw [← hkM] at HIN
  have HL5 := Lib.hid (show os.length = M from by rw [HOL.out, hkM])
  have ST := Lib.hid (fun (W : World) (hg : w3.grownBy W (some (tb + 1))) =>
    show IntsR W (some ⟨b5, 0, none⟩) M os ∧ IntsR W (some ⟨b2, 0, none⟩) M k ∧ IntsR W (some ⟨b1, 0, none⟩) L (rankT rs) ∧ W.cell? ⟨tb, 0, none⟩ = some (.int .i64 (rs.length : Int)) ∧ W.cell? ⟨tb, 1, none⟩ = some (.slice (some ⟨b1, 0, none⟩) L c1) ∧ Below w2.heap.size w2 W from by
      have hbb := H3.out.2.2.2.2
      have hBW : ∀ b, b ≠ tb + 1 → b < w3.heap.size → W.heap[b]? = w3.heap[b]? := fun b h1 h2 => hg.block b h2 (fun e => by injection e with e; exact h1 e)
      have hb2W : Below w2.heap.size w2 W := hbb.trans ⟨hg.os, hg.tape, hg.output, hg.size, fun b hb => hBW b (by omega) (by omega)⟩
      exact ⟨by rw [hkM]; exact H3.out.1.grownBy hg (by omega) (by omega), by rw [hkM]; exact H3.out.2.2.1.grownBy hg (by omega) (by omega), H3.out.2.1.grownBy hg (by omega) (by omega), (hb2W.cell (p := ⟨tb, 0, none⟩) (by show tb < _; omega)).trans HX.out.1, (hb2W.cell (p := ⟨tb, 1, none⟩) (by show tb < _; omega)).trans HX.out.2, hb2W⟩)
  clear hkM
  go_wp2_with fail
  go_loopg [7, 28] M (fun g v vi wr => ∃ (q b cc : Nat), v = .slice (some ⟨b, 0, none⟩) q cc ∧ vi = .int .i64 q ∧ q ≤ M ∧ M - q ≤ g ∧ Hid (q = (byKeys (os.take q) k).length ∧ OwnZ wr (tb + 1) b cc (byKeys (os.take q) k) ∧ (b = tb + 1 ∨ w3.heap.size ≤ b) ∧ w3.grownBy wr (some (tb + 1))))
  case atStart => exact ⟨0, tb + 1, 0, rfl, rfl, by omega, by omega, by simp [byKeys], by simpa [byKeys] using H3.out.2.2.2.1, .inl rfl, World.grownBy.refl _ _⟩
  case round =>
    obtain ⟨q, b, cc, rfl, rfl, hqM, hg, HR⟩ := hrel
    obtain ⟨i1, i2, i3, y0, y1, hbl⟩ := ST.out wr HR.out.2.2.2
    by_cases hlt : q < M
    · have hltz : (q : Int) < (M : Int) := by omega
      obtain ⟨b5', o5', he5, _, hc5⟩ := i1.2 (by omega)
      injection he5 with he5
      injection he5 with e1 e2
      subst e1 e2
      obtain ⟨b2', o2', he2, _, hc2⟩ := i2.2 (by omega)
      injection he2 with he2
      injection he2 with e1 e2
      subst e1 e2
      have hx := HIN.out q hlt
      have g1 : wr.cell? ⟨b5, q, none⟩ = some (.int .i64 (os.getD q 0)) := by have := hc5 q hlt; rwa [Nat.zero_add] at this
      have g2 : wr.cell? ⟨b2, (os.getD q 0).toNat, none⟩ = some (.int .i64 (k.getD (os.getD q 0).toNat 0)) := by have := hc2 (os.getD q 0).toNat (by omega); rwa [Nat.zero_add] at this
      have HT := Lib.hid (byKeys_take os k q (by rw [HL5.out]; exact hlt))
      have hsz : w3.heap.size ≤ wr.heap.size := HR.out.2.2.2.size
      clear i1 i2 i3 y0 y1 hbl hc5 hc2
      generalize k.getD (os.getD q 0).toNat 0 = y at g2 HT
      generalize os.getD q 0 = x at g1 g2 hx
      obtain ⟨hx1, hx2⟩ := hx
      have HO := Lib.hid (And.intro HR.out.1 (HR.out.2.1.alloc (.cells #[.int .i64 y] 3)))
      have HS := Lib.hid (IntsR.one wr y)
      go_wp2_with (at_builtin; refine wpList_appZL rfl (.tmp 32) (.tmp 37) rfl (tb + 1) b cc q _ rfl HO.out wr.heap.size 0 1 y rfl HS.out (by omega) (by simp; omega) ?_; intro b1' c1' w1' hown1 hgrow1)
      go_roundg (M - (q + 1))
      case measure => omega
      case rel =>
        refine ⟨q + 1, b1', c1', rfl, by go_num, by omega, Nat.le_refl _, (show Hid _ from ?_)⟩
        have hb' := HR.out.2.2.1
        have hg3 := HR.out.2.2.2
        have hg4 := hgrow1.out
        have hl := hown1.out.2.2
        rw [World.size_alloc] at hl
        rw [HT.out]
        refine ⟨hown1.out.1, hown1.out.2.1, by omega, ⟨hg4.os.trans hg3.os, hg4.tape.trans hg3.tape, hg4.output.trans hg3.output, by have := hg4.size; rw [World.size_alloc] at this; omega, fun j hj hne => ?_⟩⟩
        have hne' : j ≠ tb + 1 := fun e => hne (by rw [e])
        rw [hg4.block j (by rw [World.size_alloc]; omega) (fun e => by injection e with e; omega), Below.heap_alloc wr _ j (by omega)]
        exact hg3.block j hj hne
    · have hltz : ¬ (q : Int) < (M : Int) := by omega
      obtain rfl : q = M := by omega
      have hz := HR.out
      rw [List.take_of_length_le (by rw [HL5.out]; exact Nat.le_refl _)] at hz
      obtain ⟨hz1, hz2, hz3', hz4⟩ := hz
      have hss : IntsR wr (some ⟨b, 0, none⟩) q (byKeys os k) := by have := hz2.ints; rw [← hz1] at this; exact this
      have HSS := Lib.hid hss
      have HLS := Lib.hid hz1
      have HI3 := Lib.hid (And.intro i3 hbl)
      have hts : tb < wr.heap.size := by have := hz4.size; omega
      clear hss hz1 hz2 hz3' hz4 HR i1 i2 i3 hbl H3 ST HIN HX hg
      have tr := fun (W : World) (hs : tb < W.heap.size) (W' : World) (hb : Below W.heap.size W W') (y0 : W.cell? ⟨tb, 0, none⟩ = some (.int .i64 (rs.length : Int))) (y1 : W.cell? ⟨tb, 1, none⟩ = some (.slice (some ⟨b1, 0, none⟩) L c1)) =>
        show tb < W'.heap.size ∧ W'.cell? ⟨tb, 0, none⟩ = some (.int .i64 (rs.length : Int)) ∧ W'.cell? ⟨tb, 1, none⟩ = some (.slice (some ⟨b1, 0, none⟩) L c1) from
        ⟨Nat.lt_of_lt_of_le hs hb.size, (hb.cell (p := ⟨tb, 0, none⟩) hs).trans y0, (hb.cell (p := ⟨tb, 1, none⟩) hs).trans y1⟩
      have TR := Lib.hid tr
      clear tr
      go_wp2_with fail
      have hq3 : q ≤ 3000 := hM3
      go_region_held3 (fun w' => w'.cell? ⟨tb, 0, none⟩ = some (.int .i64 (rs.length : Int)) ∧ w'.cell? ⟨tb, 1, none⟩ = some (.slice (some ⟨b1, 0, none⟩) L c1)) (go_keep)
        (first
          | (go_at_call 18; refine (entries_any _ q cc (byKeys os k) _ (by exact HSS.out) (by omega)).mono ?_; rintro e w4 ⟨b6, c6, rfl, hown6, hb6⟩; have H6 := Lib.hid (And.intro hown6 (show Below wr.heap.size wr w4 from ⟨hb6.os, hb6.tape, hb6.output, hb6.size, hb6.block⟩)); obtain ⟨s6, k0, k1⟩ := TR.out wr hts w4 H6.out.2 y0 y1; clear hown6 hb6)
          | (go_at_call 21; refine (Stable_any _ _ L c1 (rankT rs) b6 0 q c6 (ents (byKeys os k)) _ (HI3.out.1.below H6.out.2) (by rw [HM.out.2]; exact HLM.out) ⟨by rw [ents_length]; exact HLS.out.symm, H6.out.1.items.2.1, by rw [HLS.out, ← ents_length]; exact H6.out.1.items.2.2⟩ (by omega)).mono ?_; rintro e w7 ⟨b7, c7, g7, L7, d7, rfl, hit7, hcs7, hL7, hb7⟩; have H7 := Lib.hid (And.intro hcs7 (show Below wr.heap.size wr w7 from H6.out.2.trans (hb7.mono H6.out.2.size))); obtain ⟨s7, k2, k3⟩ := TR.out wr hts w7 H7.out.2 y0 y1; clear hcs7 hit7 hb7))
      have HCS := Lib.hid (show CallsR w7 g7 0 L7 (callsOf (ltT (rs.length : Int) (rankT rs)) (ents (byKeys os k))) from H7.out.1)
      have HBB := Lib.hid (HB.out.trans ((HI3.out.2.trans (H7.out.2.mono HI3.out.2.size)).mono HB.out.size))
      have HL := Lib.hid (show (callsOf (ltT (rs.length : Int) (rankT rs)) (ents (byKeys os k))).length = L7 from HCS.out.1)
      have hL1 : 1 ≤ L7 := by rw [← HL.out]; simp [callsOf]
      have HNO' := Lib.hid HNO.out
      generalize callsOf (ltT (rs.length : Int) (rankT rs)) (ents (byKeys os k)) = cs at HCS HNO' HL
      clear HI3 HB HM TR H6 H7 y0 y1 hts s6 s7 k0 k1 k2 k3 HNO HSS HLS HLM HOL HL5
      go_wp2_with fail
      go_loopg [49] L7 (fun g vi wr => ∃ (j : Nat), vi = .int .i64 j ∧ j ≤ L7 ∧ L7 - j ≤ g ∧ Hid (Below w7.heap.size w7 wr))
      case atStart => exact ⟨0, rfl, by omega, by omega, Below.refl _ _⟩
      case round =>
        obtain ⟨j, rfl, hjL, hg, HR⟩ := hrel
        by_cases hlt' : j < L7
        · have hltz' : (j : Int) < (L7 : Int) := by omega
          have HCR := Lib.hid (HCS.out.below HR.out)
          obtain ⟨x1, x2, x3, x4⟩ := HCR.out.at hlt'
          have hg4 : g7 < wr.heap.size := HCR.out.2.1
          have hjz : 0 ≤ (j : Int) := by omega
          have hno := HNO'.out j (by rw [HL.out]; exact hlt')
          generalize cs.getD j (0, 0, 0, false) = C at x1 x2 x3 x4 hno
          obtain ⟨C1, C2, C3, C4⟩ := C
          simp only at x1 x2 x3 x4 hno
          have hno' : (C1 == 2) = false := by rcases hno with h | h <;> rw [h] <;> rfl
          clear hno
          go_wp2_with fail
          go_roundg (L7 - (j + 1))
          case measure => omega
          case rel => exact ⟨j + 1, by go_num, by omega, Nat.le_refl _, HR.out.alloc HR.out.size _⟩
        · have hltz' : ¬ (j : Int) < (L7 : Int) := by omega
          have hL1z : (0 : Int) < (L7 : Int) := by omega
          go_wp2_with fail
          go_ret
          exact ⟨congrArg (fun x => Ending.returned (Value.bool x)) (decide_eq_true (show 0 < L7 by omega)), HBB.out.trans (HR.out.mono HBB.out.size)⟩

theorem FnNoSwaps_said {A B : Option Addr} {n c m d : Nat} {zs ks : List Int} (w : World) (hz : IntsR w A n zs) (hnc : n ≤ c) (hc : c ≤ maxLen) (hk : IntsR w B m ks) (hmd : m ≤ d) (hd : d ≤ maxLen) :
    Calls Try.prog 8 #[.slice A n c, .slice B m d] w fun e w' => e = .returned (.bool true) ∧ Below w.heap.size w w' :=
  FnNoSwaps_walk A B n c m d zs ks w hz hk (Nat.le_trans hnc hc) hnc (Nat.le_trans hmd hd) hmd
end Go.Proofs.Ytlekkpjghamhcaa
