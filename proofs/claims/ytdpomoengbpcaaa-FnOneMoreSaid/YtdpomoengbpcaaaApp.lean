/- append onto a row of the call's own, at entries and at numbers: what it leaves. -/
import Derived.Test.YtdpomoengbpcaaaNum
namespace Go.Proofs.Ytdpomoengbpcaaa
open Go.RowKit Go.Sort Go.Lib

theorem addr_add (b o j : Nat) : (⟨b, o, none⟩ : Addr).add j = ⟨b, o + j, none⟩ := by
  unfold Addr.add; split
  · rename_i h; rw [h]; rfl
  · rfl
theorem ItemsR.news {w : World} {b o n : Nat} {xs : List It} (h : ItemsR w b o n xs) : ∀ j u, (flatI xs)[j]? = some u → w.cell? ((⟨b, o, none⟩ : Addr).add j) = some u := by
  intro j u hu
  have hj : j < xs.length * 2 := by
    rw [← flatI_length]
    exact (List.getElem?_eq_some_iff.1 hu).1
  have hq : j / 2 < xs.length := by omega
  have hm := flatI_at xs (j / 2) hq
  have hc := h.2.2 (j / 2) (by rw [← h.1]; exact hq)
  rw [addr_add]
  rcases Nat.mod_two_eq_zero_or_one j with e | e
  · have e2 : j / 2 * 2 = j := by omega
    rw [e2] at hm hc
    rw [hc.1, ← hm.1, hu]
  · have e2 : j / 2 * 2 + 1 = j := by omega
    have e3 : o + j / 2 * 2 + 1 = o + j := by omega
    rw [e2] at hm
    rw [e3] at hc
    rw [hc.2, ← hm.2, hu]
theorem IntsR.news {w : World} {b o n : Nat} {zs : List Int} (h : IntsR w (some ⟨b, o, none⟩) n zs) : ∀ j u, (zs.map (Value.int .i64))[j]? = some u → w.cell? ((⟨b, o, none⟩ : Addr).add j) = some u := by
  intro j u hu
  have hj : j < zs.length := by
    have := (List.getElem?_eq_some_iff.1 hu).1
    simpa using this
  obtain ⟨b', o', e, hb, hc⟩ := h.2 (by rw [← h.1]; omega)
  injection e with e
  injection e with e1 e2 _
  subst e1 e2
  rw [addr_add, hc j (by rw [← h.1]; exact hj), ← hu, List.getElem?_map, List.getElem?_eq_getElem hj, List.getD_eq_getElem?_getD, List.getElem?_eq_getElem hj]
  rfl
theorem ints_one (zs : List Int) : ∀ u ∈ zs.map (Value.int .i64), u.oneCell' = true := by
  intro u hu
  obtain ⟨z, _, rfl⟩ := List.mem_map.1 hu
  rfl

theorem info_Item : (Try.prog.info? 35).map (fun i => (i.zero, i.size, i.bytes)) = some (some (.agg #[.int .i64 0, .int .i64 0]), 2, 16) := by kernel_rfl
theorem info_int : (Try.prog.info? 3).map (fun i => (i.zero, i.size, i.bytes)) = some (some (.int .i64 0), 1, 8) := by kernel_rfl

theorem wpList_appI {ops : Array Oper} {rest : List Oper} {op : Oper} {a : Act} {w : World} {Q : Exit → Act → World → Prop} (hgd : op.guard = none) (s x : Operand)
    (ho : op.op = .call { callee := .builtin .append, args := #[s, x], argTypes := #[24, 24] })
    (base b c n : Nat) (xs : List It) (hs : a.eval s = .slice (some ⟨b, 0, none⟩) n c) (hown : Hid (n = xs.length ∧ OwnI w base b c xs))
    (b2 o2 m d : Nat) (ys : List It) (hx : a.eval x = .slice (some ⟨b2, o2, none⟩) m d) (hr : Hid (ItemsR w b2 o2 m ys)) (hlen : n + m ≤ 8000000000000) (hbase : base ≤ w.heap.size)
    (h : ∀ b' c' w', Hid (n + m = (xs ++ ys).length ∧ OwnI w' base b' c' (xs ++ ys)) → Hid (w.grownBy w' (some b)) → wpList Try.prog ops Q rest (a.put op.dst (.slice (some ⟨b', 0, none⟩) (n + m) c')) w') : wpList Try.prog ops Q (op :: rest) a w := by
  obtain ⟨i0, hi, hz0, hz1, hz2⟩ := info_parts info_Item
  obtain ⟨hn, hown'⟩ := hown.out
  subst hn
  have hr' := hr.out
  refine wpList_append_own w hgd s x 24 ho base 35 i0 _ 2 16 Try.underlying24 hi hz0 hz1 hz2 rfl (by decide) _ xs.length (flatI xs) hs hown' ⟨b2, o2, none⟩ m d (flatI ys) hx (by rw [flatI_length, hr'.1]) hr'.news (flatI_one ys) (by unfold maxLen; omega) (by omega) hbase ?_
  intro v' w' h1 h2 h3
  rw [flatI_append] at h1
  have hv : v' ≠ .slice none 0 0 := fun e => by have := (h3.1 e).1; injection this with e1; cases e1
  obtain ⟨b', c', rfl, hl, ho'⟩ := ownI_of h1 hv
  rw [← hl]
  exact h b' c' w' ⟨hl, ho'⟩ h2

theorem wpList_appZ {ops : Array Oper} {rest : List Oper} {op : Oper} {a : Act} {w : World} {Q : Exit → Act → World → Prop} (hgd : op.guard = none) (s x : Operand)
    (ho : op.op = .call { callee := .builtin .append, args := #[s, x], argTypes := #[22, 22] })
    (base b c n : Nat) (xs : List Int) (hs : a.eval s = .slice (some ⟨b, 0, none⟩) n c) (hown : Hid (n = xs.length ∧ OwnZ w base b c xs))
    (b2 o2 m d : Nat) (ys : List Int) (hx : a.eval x = .slice (some ⟨b2, o2, none⟩) m d) (hr : Hid (IntsR w (some ⟨b2, o2, none⟩) m ys)) (hlen : n + m ≤ 17592186044416) (hbase : base ≤ w.heap.size)
    (h : ∀ b' c' w', Hid (n + m = (xs ++ ys).length ∧ OwnZ w' base b' c' (xs ++ ys)) → Hid (w.grownBy w' (some b)) → wpList Try.prog ops Q rest (a.put op.dst (.slice (some ⟨b', 0, none⟩) (n + m) c')) w') : wpList Try.prog ops Q (op :: rest) a w := by
  obtain ⟨i0, hi, hz0, hz1, hz2⟩ := info_parts info_int
  obtain ⟨hn, hown'⟩ := hown.out
  subst hn
  have hr' := hr.out
  refine wpList_append_own w hgd s x 22 ho base 3 i0 _ 1 8 Try.underlying22 hi hz0 hz1 hz2 rfl (by decide) _ xs.length (xs.map (Value.int .i64)) hs hown' ⟨b2, o2, none⟩ m d (ys.map (Value.int .i64)) hx (by rw [List.length_map, hr'.1]; omega) hr'.news (ints_one ys) (by unfold maxLen; omega) (by omega) hbase ?_
  intro v' w' h1 h2 h3
  rw [← List.map_append] at h1
  have hv : v' ≠ .slice none 0 0 := fun e => by have := (h3.1 e).1; injection this with e1; cases e1
  obtain ⟨b', c', rfl, hl, ho'⟩ := ownZ_of h1 hv
  rw [← hl]
  exact h b' c' w' ⟨hl, ho'⟩ h2

/-- '[]impl.Item{}', '[]int{}': a new row with nothing in it. -/
theorem OwnI.made (w : World) : OwnI (w.alloc (.cells #[] 35)) w.heap.size w.heap.size 0 [] := World.ownsRow_made (base := w.heap.size) (e := 35) (size := 2) w #[] 0 (Nat.le_refl _) (by decide) rfl
theorem OwnZ.made (w : World) : OwnZ (w.alloc (.cells #[] 3)) w.heap.size w.heap.size 0 [] := World.ownsRow_made (base := w.heap.size) (e := 3) (size := 1) w #[] 0 (Nat.le_refl _) (by decide) rfl
theorem OwnI.mono {w : World} {base base' b c : Nat} {xs : List It} (h : OwnI w base b c xs) (hb : base' ≤ base) : OwnI w base' b c xs := by
  obtain ⟨h1, h2⟩ := h
  refine ⟨h1, ?_⟩
  rcases h2 with h2 | ⟨g, cap, cur, e, h3, r⟩
  · exact .inl h2
  · exact .inr ⟨g, cap, cur, e, Nat.le_trans hb h3, r⟩
theorem OwnZ.mono {w : World} {base base' b c : Nat} {zs : List Int} (h : OwnZ w base b c zs) (hb : base' ≤ base) : OwnZ w base' b c zs := by
  obtain ⟨h1, h2⟩ := h
  refine ⟨h1, ?_⟩
  rcases h2 with h2 | ⟨g, cap, cur, e, h3, r⟩
  · exact .inl h2
  · exact .inr ⟨g, cap, cur, e, Nat.le_trans hb h3, r⟩
theorem OwnI.alloc {w : World} {base b c : Nat} {xs : List It} (h : OwnI w base b c xs) (o : Obj) : OwnI (w.alloc o) base b c xs := World.ownsRow.alloc h o
theorem OwnZ.alloc {w : World} {base b c : Nat} {zs : List Int} (h : OwnZ w base b c zs) (o : Obj) : OwnZ (w.alloc o) base b c zs := World.ownsRow.alloc h o
/-- The one entry, the one number, that 'append(l, x)' lays ahead of the append. -/
theorem ItemsR.one (w : World) (k t : Int) : ItemsR (w.alloc (.cells #[.int .i64 k, .int .i64 t] 35)) w.heap.size 0 1 [(k, t)] :=
  ⟨rfl, by simp, fun i hi => by obtain rfl : i = 0 := by omega
                                simp⟩
theorem IntsR.one (w : World) (k : Int) : IntsR (w.alloc (.cells #[.int .i64 k] 3)) (some ⟨w.heap.size, 0, none⟩) 1 [k] :=
  ⟨rfl, fun _ => ⟨_, _, rfl, by simp, fun i hi => by obtain rfl : i = 0 := by omega
                                                     simp⟩⟩
/-- What was there before an append, and before its own row, is there behind it. -/
theorem below_app {B b : Nat} {a w w' : World} (h : Below B a w) (hg : w.grownBy w' (some b)) (hB : B ≤ w.heap.size) (hb : B ≤ b) : Below B a w' := h.grown hg hB (fun k hk => by injection hk with e; omega)
end Go.Proofs.Ytdpomoengbpcaaa
