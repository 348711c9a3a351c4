/- Walks: the function that SliceStable hands on; sort.SliceStable at entries; impl.SliceStable: it gives the entries as stable sorts them by the table's numbers. -/
import Derived.Test.YtdpomoengbpcaaaFncD
import Derived.Test.YtdpomoengbpcaaaImpA
import Derived.Shelf.GgSortFunc.SmallK
namespace Go.Proofs.Ytdpomoengbpcaaa
open Go.RowKit Go.Sort Go.Lib

set_option maxHeartbeats 1000000 in
set_option maxRecDepth 100000 in
/-- SliceStable's literal: it reads the boxed table and the boxed slice. -/
theorem less_any (N : Int) (A : Option Addr) (nz c : Nat) (zs : List Int) (tb ob blk n ic : Nat) (w1 w0 : World) (hz : IntsR w1 A nz zs) (hnz : nz ≤ maxLen) (htb : tb < w1.heap.size) (hob : ob < w0.heap.size)
    (h0 : w1.cell? ⟨tb, 0, none⟩ = some (.int .i64 N)) (h1 : w1.cell? ⟨tb, 1, none⟩ = some (.slice A nz c)) (h2 : w0.cell? ⟨ob, 0, none⟩ = some (.slice (some ⟨blk, 0, none⟩) n ic)) (hne : ob ≠ blk)
    (hb : Below w1.heap.size w1 w0) (hblk : w1.heap.size ≤ blk) (W : World) (d : Array It) (i j : Nat) (hR : RowR blk w0 d W) (hd : d.size = n) (hi : i < n) (hj : j < n) :
    Calls Try.prog 32 #[.int .i64 i, .int .i64 j, .pointer (some ⟨tb, 0, none⟩), .pointer (some ⟨ob, 0, none⟩)] W fun e w' => e = .returned (.bool (ltT N zs d[i]! d[j]!)) ∧ ∃ q os, w' = Sort.grow (W.drewN q) os := by
  have mixed := mixedOrders
  have hB : ∀ q os, Below w1.heap.size w1 (Sort.grow (W.drewN q) os) := fun q os => by
    have hW := (hR.grown q os).only
    exact hb.trans ⟨hW.os, hW.tape, hW.output, hW.size, fun k hk => hW.block k (Nat.lt_of_lt_of_le hk hb.size) (fun e => by injection e with e; omega)⟩
  have l0 : ∀ q os, (Sort.grow (W.drewN q) os).cell? ⟨tb, 0, none⟩ = some (.int .i64 N) := fun q os => ((hB q os).cell (p := ⟨tb, 0, none⟩) htb).trans h0
  have l1 : ∀ q os, (Sort.grow (W.drewN q) os).cell? ⟨tb, 1, none⟩ = some (.slice A nz c) := fun q os => ((hB q os).cell (p := ⟨tb, 1, none⟩) htb).trans h1
  have l2 : ∀ q os, (Sort.grow (W.drewN q) os).cell? ⟨ob, 0, none⟩ = some (.slice (some ⟨blk, 0, none⟩) n ic) := fun q os =>
    (World.cell?_of_block ((hR.grown q os).only.block ob hob (fun e => by injection e with e; exact hne e))).trans h2
  have l3 : ∀ q os, (Sort.grow (W.drewN q) os).cell? ⟨blk, i * 2, none⟩ = some (.int .i64 d[i]!.1) := fun q os => ((hR.grown q os).at (by rw [hd]; exact hi)).1
  have l4 : ∀ q os, (Sort.grow (W.drewN q) os).cell? ⟨blk, j * 2, none⟩ = some (.int .i64 d[j]!.1) := fun q os => ((hR.grown q os).at (by rw [hd]; exact hj)).1
  have hcg : ∀ q os, Calls Try.prog 30 #[.agg #[.int .i64 N, .slice A nz c], .int .i64 d[i]!.1, .int .i64 d[j]!.1] (Sort.grow (W.drewN q) os) fun e w' => e = .returned (.int .i64 (num N zs d[i]!.1 d[j]!.1)) ∧ ∃ q' os', w' = Sort.grow ((Sort.grow (W.drewN q) os).drewN q') os' := fun q os =>
    (number_any N A nz c zs _ _ _ (hz.below (hB q os)) hnz).mono fun e w' ⟨he, hw⟩ => ⟨he, 0, #[.cells #[.int .i64 N, .slice A nz c] 28], by subst hw; rw [alloc_eq_grow]; rfl⟩
  have HLT := Lib.hid (show ltT N zs d[i]! d[j]! = decide (num N zs d[i]!.1 d[j]!.1 < 0) from rfl)
  have hiz : (i : Int) < (n : Int) := by omega
  have hjz : (j : Int) < (n : Int) := by omega
  generalize d[i]!.1 = x at l3 hcg HLT
  generalize d[j]!.1 = y at l4 hcg HLT
  generalize ltT N zs d[i]! d[j]! = yes at HLT ⊢
  clear hR hz hnz hB h0 h1 h2 hb hd
  go_enter Try.func32, Try.ntmps32
  go_wp2_with fail
  go_quiet_grown (first | (go_at_call 30; refine Calls.grown_of (hcg _ _)))
  go_wp2_with fail
  go_ret
  exact ⟨by rw [HLT.out]; rfl, _, _, rfl⟩

theorem info_items : ∃ i, Try.prog.info? 24 = some i ∧ i.desc = .slice 35 := by
  have h : (Try.prog.info? 24).map (fun i => i.desc) = some (.slice 35) := by kernel_rfl
  cases e : Try.prog.info? 24 with
  | none => rw [e] at h; cases h
  | some i => rw [e] at h; exact ⟨i, rfl, by injection h⟩
theorem info_item : ∃ i, Try.prog.info? 35 = some i ∧ i.size = 2 ∧ i.hasPointers = false ∧ i.bytes = 16 := by
  have h : (Try.prog.info? 35).map (fun i => (i.size, i.hasPointers, i.bytes)) = some (2, false, 16) := by kernel_rfl
  cases e : Try.prog.info? 35 with
  | none => rw [e] at h; cases h
  | some i => rw [e] at h; injection h with h; injection h with h1 h2; injection h2 with h2 h3; exact ⟨i, rfl, h1, h2, h3⟩
theorem swapperK_item (ie : TypeInfo) (h1 : ie.hasPointers = false) (h2 : ie.bytes = 16) (n ke : Nat) : swapperK n ie ke = if n = 0 then 1 else if n = 1 then 2 else 9 := by
  unfold swapperK
  rw [h1, h2]
  by_cases h : n = 0
  · subst h; rfl
  · by_cases h' : n = 1
    · subst h'; rfl
    · simp [h, h']
theorem swapper_1 : Try.prog.funcs.findIdx? (·.name == "internal/reflectlite" ++ ".Swapper$" ++ toString 1) = some 43 := by kernel_rfl
theorem swapper_2 : Try.prog.funcs.findIdx? (·.name == "internal/reflectlite" ++ ".Swapper$" ++ toString 2) = some 44 := by kernel_rfl
theorem swapper_9 : Try.prog.funcs.findIdx? (·.name == "internal/reflectlite" ++ ".Swapper$" ++ toString 9) = some 51 := by kernel_rfl
theorem kind_item (w : World) : (Extern.Rtype.kind 35).run Try.prog w = .ok 25 w := by kernel_rfl
theorem agg_item (w : World) : (isAgg 35).run Try.prog w = .ok true w := by kernel_rfl
theorem packed_items : Try.prog.packed 24 = false := by kernel_rfl
theorem swapper_9_run (args : Array Value) (W : World) : (callFunc 51 args).run Try.prog W = ((Extern.ReflectliteSwapper.swap false args).run Try.prog W).andThen fun v w' => .ok (.value v) w' :=
  run_callFunc_extern Try.func51 (by kernel_rfl) (by kernel_rfl) (by kernel_rfl) (e := Extern.ReflectliteSwapper.swap false) (by kernel_rfl) args W

/-- The world in which stable_func is called: two new blocks. -/
def stabW (g : Nat) (t : TypeId) (p : Option Addr) (n c : Nat) (w : World) : World :=
  (w.alloc (.cells #[.slice p n c] t)).alloc (.cells #[.pointer (some ⟨g, t, none⟩), .pointer (some ⟨w.heap.size, 0, none⟩), .int .u64 151] 68)

set_option maxHeartbeats 1000000 in
set_option maxRecDepth 100000 in
theorem sortSliceStable_of (p : Option Addr) (n c f : Nat) (i ie : TypeInfo) (hi : Try.prog.info? 24 = some i) (hd : i.desc = .slice 35) (hie : Try.prog.info? 35 = some ie)
    (hf : Try.prog.funcs.findIdx? (·.name == "internal/reflectlite" ++ ".Swapper$" ++ toString (swapperK n ie 25)) = some f) (lf : Fn) (la lb : Array Value) (w : World) (R : World → Prop)
    (hp : Calls Try.prog 37 #[.agg #[.func lf la lb, .func (.func f) #[] (if swapperK n ie 25 ≤ 2 then #[] else #[.slice p n c, typeHandle Try.prog 35])], .int .i64 n] (stabW Try.prog.globals.size 24 p n c w) fun e w' => e = .returned (.tuple #[]) ∧ R w') :
    Calls Try.prog 31 #[.iface 24 (.slice p n c), .func lf la lb] w fun e w' => e = .returned (.tuple #[]) ∧ R w' := by
  have hv := run_valueOf_slice (P := Try.prog) 24 35 i hi hd p n c w
  have hs := fun w => run_swapper_slice (P := Try.prog) 24 35 i ie hi hd hie 25 kind_item p n c f hf w
  have hl := fun a w ha => run_valueLen_slice (P := Try.prog) 24 35 i hi hd packed_items a p n c w ha
  unfold stabW at hp
  generalize (if swapperK n ie 25 ≤ 2 then (#[] : Array Value) else #[.slice p n c, typeHandle Try.prog 35]) = B at hs hp
  have hg : Try.prog.globals.size = 0 := by kernel_rfl
  simp only [typeHandle, hg] at hv hl hp
  go_enter Try.func31, Try.ntmps31
  go_wp2
  rw [run_callFunc_extern Try.func35 (by kernel_rfl) (by kernel_rfl) (by kernel_rfl) (e := fun args => Extern.ReflectliteValue.unpack (args.getD 0 (.tuple #[]))) (by kernel_rfl),
    show Sem.run Try.prog ((fun args : Array Value => Extern.ReflectliteValue.unpack (args.getD 0 (.tuple #[]))) #[.iface 24 (.slice p n c)]) w = _ from hv]
  simp only [Result.andThen]
  rw [Oper.upon_value]
  go_wp2
  rw [run_callFunc_extern Try.func36 (by kernel_rfl) (by kernel_rfl) (by kernel_rfl) (e := Extern.ReflectliteSwapper.swapper "internal/reflectlite" (Extern.ReflectliteValue.valueError "Swapper")) (by kernel_rfl), hs]
  simp only [Result.andThen]
  rw [Oper.upon_value]
  go_wp2
  rw [run_callFunc_extern Try.func38 (by kernel_rfl) (by kernel_rfl) (by kernel_rfl) (e := Extern.ReflectliteValue.method (Extern.ReflectliteValue.valueError "reflectlite.Value.Len" 0) Extern.ReflectliteValue.len) (by kernel_rfl),
    hl _ _ (by simp)]
  simp only [Result.andThen]
  rw [Oper.upon_value]
  go_wp2_with fail
  refine hp.mono ?_
  rintro e w' ⟨rfl, hR⟩
  go_wp2_with fail
  go_end0
  exact ⟨rfl, hR⟩

/-- sort.stable_func at no entry or one: neither function is called. -/
theorem stable_fnc_tiny (fv gv : Value) (n : Nat) (W : World) (hn : n ≤ 1) :
    Calls Try.prog 37 #[.agg #[fv, gv], .int .i64 n] W fun e w' => e = .returned (.tuple #[]) ∧ ∃ os, w' = Sort.grow W os := by
  have HI := Lib.hid (fun W' => insertionSort_fnc_none fv gv 0 n W' (by omega) (by omega))
  have h20 : ¬ (20 : Int) ≤ (n : Int) := by omega
  have h20' : ¬ (20 : Int) < (n : Int) := by omega
  go_enter Try.func37, Try.ntmps37
  go_wp2
  refine wp_loop_rounds 1 ?_
  rw [rounds_succ]
  go_wp2_with fail
  refine (HI.out _).mono ?_
  rintro e w1 ⟨rfl, rfl⟩
  go_wp2_with fail
  refine wp_loop_rounds 1 ?_
  rw [rounds_succ]
  go_wp2_with fail
  go_end0
  exact ⟨rfl, _, by rw [alloc_eq_grow, alloc_eq_grow, grow_grow]⟩
end Go.Proofs.Ytdpomoengbpcaaa
