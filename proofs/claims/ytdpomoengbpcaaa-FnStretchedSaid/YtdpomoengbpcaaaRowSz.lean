/- A slice of integers that came in: it takes no more bytes than the form's reach. -/
import Derived.Test.YtdpomoengbpcaaaRowKit
import Derived.SizedLaws
namespace Go.Proofs.Ytdpomoengbpcaaa
open Go.ChangeShapes Go.WideShapes Go.ChangeAt Go.RowKit

theorem bytes_int : Try.prog.bytesOf 3 = 8 := by kernel_rfl
theorem intsSz_of {H : Type} {enc : TypeId × Value → H} {W : World} {a : Option Addr} {len cap : Nat} {d : DataW H} {p : List MemPlace}
    (h : DataW.Trod enc Try.prog W 0 (fun _ => true) true 22 (.slice a len cap) d p) : len = 0 ∨ ∃ es sp, d = .slice es sp ∧ es.length = len := by
  obtain ⟨fuel, hf⟩ := h
  rcases open_ints Try.underlying22 Try.underlying3 (by kernel_rfl) hf with ⟨hcs, _⟩ | ⟨x, l, c, zs, hcs, _, hl, hm, hz, hx, _, _⟩
  · simp [Value.cells] at hcs
    exact .inl hcs.2.1
  · simp [Value.cells] at hcs
    obtain ⟨rfl, rfl, rfl⟩ := hcs
    have hz' : zs.length = cap := by simpa using hz
    simp only [Prod.mk.injEq] at hx
    refine .inr ⟨_, _, hx.1, ?_⟩
    simp only [lits, List.length_map, List.length_take]
    omega
end Go.Proofs.Ytdpomoengbpcaaa
