/-
  How the arguments of a statement are opened: slices of whole numbers and of bools, as lists.
-/
import Derived.Test.YtklihfjchomkmaaRows
import Derived.Test.YtklihfjchomkmaaWWords
import Derived.WalkKit
import Derived.ProofKit
import Derived.OpenShut
import Derived.Deep.Grids
namespace Go.Proofs.Ytklihfjchomkmaa
open Go.ChangeShapes Go.WideShapes Go.ChangeAt Go.RowKit
open Go.Proofs.YtklihfjchomkmaaW.PrintWords

theorem Try.own : ownKnob Try.prog.godebug = none := by kernel_rfl
theorem Try.laidOut : laidOutB Try.prog = true := by kernel_rfl

def wfs (k : IntKind) (l : List Int) : Prop := ∀ x ∈ l, (Lit.int k x).wf = true

set_option maxRecDepth 100000 in
theorem opened_ints {H : Type} {enc : TypeId × Value → H} {W : World} {t e : TypeId} {k : IntKind} {r : Reach} {base : Nat} {v : Value} {d : DataW H} {p : List MemPlace} (ht : Try.prog.underlying t = some (.slice e)) (he : Try.prog.underlying e = some (.int k)) (hc : Try.prog.cellsOf e = 1)
    (hv : Value.okWide Try.prog W r base t v) (h : ∃ fuel, DataW.trod enc Try.prog W 0 (fun _ => true) true fuel t v.cells.toList = some (d, p)) :
    ∃ A c l, v = .slice A l.length c ∧ l.length ≤ c ∧ l.length ≤ 9223372036854775807 ∧ Kd.C (Kd.int k) W A l.length l ∧ wfs k l := by
  obtain ⟨a0, len, cap, rfl⟩ := okWide_slice ht hv
  obtain ⟨fuel, hf⟩ := h
  rcases open_ints ht he hc hf with ⟨hcs, _⟩ | ⟨x, l, c, zs, hcs, _, hl, hm, hz, _, hcell, hwz⟩
  · simp [Value.cells] at hcs
    obtain ⟨rfl, rfl, rfl⟩ := hcs
    exact ⟨none, 0, [], rfl, Nat.le_refl _, by rw [List.length_nil]; omega, Kd.C_nil _ _, by intro x hx; cases hx⟩
  · simp [Value.cells] at hcs
    obtain ⟨rfl, rfl, rfl⟩ := hcs
    simp only [if_true] at hz
    unfold maxLen at hm
    have hlen : (zs.take len).length = len := by rw [List.length_take]; omega
    refine ⟨some x, cap, zs.take len, by rw [hlen], by omega, by omega, ?_, fun y hy => hwz y (List.mem_of_mem_take hy)⟩
    refine Kd.C_of_reads (d := (0 : Int)) ⟨rfl, by omega, fun _ => ⟨x, rfl, fun j hj => ?_⟩⟩
    rw [hcell j (by omega)]
    rw [List.getD_eq_getElem?_getD, List.getD_eq_getElem?_getD, List.getElem?_take, if_pos (by omega)]

set_option maxRecDepth 100000 in
theorem opened_bools {H : Type} {enc : TypeId × Value → H} {W : World} {t e : TypeId} {r : Reach} {base : Nat} {v : Value} {d : DataW H} {p : List MemPlace} (ht : Try.prog.underlying t = some (.slice e)) (he : Try.prog.underlying e = some .bool) (hc : Try.prog.cellsOf e = 1)
    (hv : Value.okWide Try.prog W r base t v) (h : ∃ fuel, DataW.trod enc Try.prog W 0 (fun _ => true) true fuel t v.cells.toList = some (d, p)) :
    ∃ A c l, v = .slice A l.length c ∧ l.length ≤ c ∧ l.length ≤ 9223372036854775807 ∧ Kd.C Kd.bool W A l.length l := by
  obtain ⟨a0, len, cap, rfl⟩ := okWide_slice ht hv
  obtain ⟨fuel, hf⟩ := h
  rcases Deep.open_bools ht he hc hf with ⟨hcs, _⟩ | ⟨x, l, c, B, hcs, _, hl, hm, _, hcell⟩
  · simp [Value.cells] at hcs
    obtain ⟨rfl, rfl, rfl⟩ := hcs
    exact ⟨none, 0, [], rfl, Nat.le_refl _, by rw [List.length_nil]; omega, Kd.C_nil _ _⟩
  · simp [Value.cells] at hcs
    obtain ⟨rfl, rfl, rfl⟩ := hcs
    unfold maxLen at hm
    have hlen : ((List.range len).map B).length = len := by simp
    refine ⟨some x, cap, (List.range len).map B, by rw [hlen], by omega, by omega, ?_⟩
    refine Kd.C_of_reads (d := false) ⟨rfl, by omega, fun _ => ⟨x, rfl, fun j hj => ?_⟩⟩
    rw [hcell j (by omega)]
    rw [List.getD_eq_getElem?_getD, List.getElem?_map, List.getElem?_range (by omega)]
    rfl

end Go.Proofs.Ytklihfjchomkmaa
