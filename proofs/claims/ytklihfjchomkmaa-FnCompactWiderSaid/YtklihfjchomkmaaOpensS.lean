/-
  How the arguments of a statement are opened: slices of texts, as lists.
-/
import Derived.Test.YtklihfjchomkmaaRows
import Derived.Test.YtklihfjchomkmaaWWords
import Derived.WalkKit
import Derived.ProofKit
import Derived.OpenShut
import Derived.Test.YtklihfjchomkmaaOpens
import Derived.SliceStrings
namespace Go.Proofs.Ytklihfjchomkmaa
open Go.ChangeShapes Go.WideShapes Go.ChangeAt Go.RowKit
open Go.Proofs.YtklihfjchomkmaaW.PrintWords

set_option maxRecDepth 100000 in
theorem opened_strings {H : Type} {enc : TypeId × Value → H} {W : World} {t e : TypeId} {r : Reach} {base : Nat} {v : Value} {d : DataW H} {p : List MemPlace} (ht : Try.prog.underlying t = some (.slice e)) (he : Try.prog.underlying e = some .string) (hc : Try.prog.cellsOf e = 1)
    (hv : Value.okWide Try.prog W r base t v) (h : ∃ fuel, DataW.trod enc Try.prog W 0 (fun _ => true) true fuel t v.cells.toList = some (d, p)) :
    ∃ A c l, v = .slice A l.length c ∧ l.length ≤ c ∧ l.length ≤ 9223372036854775807 ∧ Kd.C Kd.string W A l.length l := by
  obtain ⟨a0, len, cap, rfl⟩ := okWide_slice ht hv
  obtain ⟨fuel, hf⟩ := h
  rcases open_strings ht he hc hf with ⟨hcs, _⟩ | ⟨x, l, c, ss, hcs, _, hl, hm, hz, _, hcell, _⟩
  · simp [Value.cells] at hcs
    obtain ⟨rfl, rfl, rfl⟩ := hcs
    exact ⟨none, 0, [], rfl, Nat.le_refl _, by rw [List.length_nil]; omega, Kd.C_nil _ _⟩
  · simp [Value.cells] at hcs
    obtain ⟨rfl, rfl, rfl⟩ := hcs
    simp only [if_true] at hz
    unfold maxLen at hm
    have hlen : (ss.take len).length = len := by rw [List.length_take]; omega
    refine ⟨some x, cap, ss.take len, by rw [hlen], by omega, by omega, ?_⟩
    refine Kd.C_of_reads (d := ByteArray.empty) ⟨rfl, by omega, fun _ => ⟨x, rfl, fun j hj => ?_⟩⟩
    rw [hcell j (by omega)]
    rw [List.getD_eq_getElem?_getD, List.getD_eq_getElem?_getD, List.getElem?_take, if_pos (by omega)]

end Go.Proofs.Ytklihfjchomkmaa
