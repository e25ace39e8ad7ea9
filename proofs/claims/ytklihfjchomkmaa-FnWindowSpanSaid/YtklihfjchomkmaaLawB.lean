/-
  FnWindowBehind, walked: whatever the window, the greatest number and the way back, the law ends with true.
-/
import Derived.Test.YtklihfjchomkmaaWin
namespace Go.Proofs.Ytklihfjchomkmaa
open Go.RowKit Go.Proofs.YtklihfjchomkmaaW.PrintWords Go.Proofs.YtklihfjchomkmaaW.PrintLast Go.Proofs.YtklihfjchomkmaaW.PrintMore

theorem C_block_int {w : World} {B : Nat} {e : TypeId} {xs : List Int} (h : w.heap[B]? = some (.cells (nums .u64 xs).toArray e)) (hm : xs.length ≤ 1000) : Kd.C (Kd.int .u64) w (some ⟨B, 0, none⟩) xs.length xs := by
  refine Kd.C_of_reads (d := (0 : Int)) ⟨rfl, by omega, fun _ => ⟨_, rfl, fun j hj => ?_⟩⟩
  have hc := cellN h j (by omega) (by omega)
  rw [Int.toNat_natCast] at hc
  rw [add_plain, hc]
  simp [at0]

theorem C_block_bool {w : World} {B : Nat} {e : TypeId} {xs : List Bool} (h : w.heap[B]? = some (.cells (bools xs).toArray e)) (hm : xs.length ≤ 1000) : Kd.C Kd.bool w (some ⟨B, 0, none⟩) xs.length xs := by
  refine Kd.C_of_reads (d := false) ⟨rfl, by omega, fun _ => ⟨_, rfl, fun j hj => ?_⟩⟩
  rw [add_plain, cellB h, bools, List.getElem?_map, List.getElem?_eq_getElem hj, List.getD_eq_getElem?_getD, List.getElem?_eq_getElem hj]
  rfl

theorem tell_behind (win top back : Int) (_h1 : 1 ≤ win) (h3 : top ≤ 281474976710655) (h4 : 1 ≤ back) (h5 : back ≤ top) :
    tellA 281474976710655 win 0 (fun _ => false) [(top, true), (top - back, true), (top, true)] = [true, decide (back < win), false] := by
  have f1 : freshA 281474976710655 win 0 (fun _ => false) top = true := by
    have : (0 : Int) < top := by omega
    simp [freshA, h3, this]
  have m1 : max 0 top = top := by omega
  rw [tellA_cons, f1, if_pos rfl, if_pos rfl, m1, tellA_cons]
  have e1 : ¬ (top - back = top) := by omega
  have e2 : ¬ top < top - back := by omega
  have e3 : top - back ≤ 281474976710655 := by omega
  have e4 : top - (top - back) = back := by omega
  by_cases hb : back < win
  · have f2 : freshA 281474976710655 win top (fun x => x == top || false) (top - back) = true := by
      simp [freshA, e1, e3, e4, hb]
    have m2 : max top (top - back) = top := by omega
    rw [f2, if_pos rfl, if_pos rfl, m2, tellA_cons]
    simp [freshA, hb, tellA]
  · have f2 : freshA 281474976710655 win top (fun x => x == top || false) (top - back) = false := by
      simp [freshA, e2, e4, hb]
    rw [f2, tellA_cons]
    simp [freshA, hb, tellA]

set_option maxRecDepth 100000 in
set_option maxHeartbeats 1000000 in
theorem behind_law (win top back : Int) (w : World) (h00 : -9223372036854775808 ≤ win) (h01 : win ≤ 9223372036854775807) (ht0 : 0 ≤ top) (hb1 : back ≤ 9223372036854775807) :
    Calls Try.prog 5 #[.int .i64 win, .int .u64 top, .int .i64 back] w fun e w' => e = .returned (.bool true) ∧ Below w.heap.size w w' := by
  by_cases g1 : win < 1
  · go_enter Try.func5, Try.ntmps5
    go_wp2
    go_ret
    exact ⟨rfl, Below.refl _ _⟩
  by_cases g2 : 500 < win
  · go_enter Try.func5, Try.ntmps5
    go_wp2
    go_ret
    exact ⟨rfl, Below.refl _ _⟩
  by_cases g3 : 32 < win % 64
  · go_enter Try.func5, Try.ntmps5
    go_wp2
    go_ret
    exact ⟨rfl, Below.refl _ _⟩
  by_cases g4 : 281474976710655 < top
  · go_enter Try.func5, Try.ntmps5
    go_wp2
    go_ret
    exact ⟨rfl, Below.refl _ _⟩
  by_cases g5 : back < 1
  · go_enter Try.func5, Try.ntmps5
    go_wp2
    go_ret
    exact ⟨rfl, Below.refl _ _⟩
  by_cases g6 : top < back
  · go_enter Try.func5, Try.ntmps5
    go_wp2
    go_ret
    exact ⟨rfl, Below.refl _ _⟩
  have hpr : Aside0 ((runD 281474976710655 win ([top, top - back, top].zip [true, true, true])).out = [true, decide (back < win), false]) := ⟨by
    rw [runD_tell _ win (by omega) (by omega) _ (by intro p hp; simp at hp; rcases hp with rfl | rfl | rfl <;> simp <;> omega)]
    exact tell_behind win top back (by omega) (by omega) (by omega) (by omega)⟩
  have HA := Aside0.mk (heap_alloc_new w (.cells (nums .u64 [top, top - back, top]).toArray 26))
  have HB2 := Aside0.mk (heap_alloc_new (w.alloc (.cells (nums .u64 [top, top - back, top]).toArray 26)) (.cells (bools [true, true, true]).toArray 4))
  have HA2 := Aside0.mk ((Below.heap_alloc (w.alloc (.cells (nums .u64 [top, top - back, top]).toArray 26)) (.cells (bools [true, true, true]).toArray 4) w.heap.size (by simp)).trans HA.out)
  have HU : Aside0 (U64L [top, top - back, top]) := ⟨by intro x hx; simp at hx; rcases hx with rfl | rfl | rfl <;> exact ⟨by omega, by omega⟩⟩
  go_enter Try.func5, Try.ntmps5
  go_wp2_with fail
  refine (replay_any win 281474976710655 (some ⟨w.heap.size, 0, none⟩) (some ⟨w.heap.size + 1, 0, none⟩) 3 3 [top, top - back, top] [true, true, true] _ (by omega) (by omega) (by omega) (by omega) (by omega) rfl (by simp) HU.out (C_block_int HA2.out (by simp)) (C_block_bool (by have h := HB2.out; simpa using h) (by simp))).mono ?_
  rintro e w2 ⟨v9, rfl, ho, hb⟩
  have HBB := Aside0.mk (below_then (below_alloc (below_alloc (Below.refl w.heap.size w) _) _) (by simp; omega) hb)
  have HO := Aside0.mk (show Kd.bool.R 4 w2 _ (fun _ => True) v9 [true, decide (back < win), false] by rw [← hpr.out]; exact ho)
  clear ho hb
  obtain ⟨g, cap, e9, _, _, _⟩ := Kd.R_form HO.out (by simp)
  subst e9
  have hx0 : w2.cell? ⟨g, 0, none⟩ = some (.bool true) := (Kd.R_cell false HO.out 0 (by omega) (by simp)).1
  have hx1 : w2.cell? ⟨g, 1, none⟩ = some (.bool (decide (back < win))) := (Kd.R_cell false HO.out 1 (by omega) (by simp)).1
  have hx2 : w2.cell? ⟨g, 2, none⟩ = some (.bool false) := (Kd.R_cell false HO.out 2 (by omega) (by simp)).1
  have p1 : (decide (back < win) == decide (back < win)) = true := by simp
  go_wp2
  go_ret
  exact ⟨rfl, HBB.out⟩
end Go.Proofs.Ytklihfjchomkmaa

namespace Go.Proofs.Ytklihfjchomkmaa
open Go.RowKit
theorem behind_row (win top back : Int) (w : World) (h0 : (Lit.int .i64 win).wf = true) (h1 : (Lit.int .u64 top).wf = true) (h2 : (Lit.int .i64 back).wf = true) :
    Calls Try.prog 5 #[.int .i64 win, .int .u64 top, .int .i64 back] w fun e w' => e = .returned (.bool true) ∧ Below w.heap.size w w' := by
  have k0 : -9223372036854775808 ≤ win ∧ win ≤ 9223372036854775807 := by simpa [Lit.wf, IntKind.min, IntKind.max, IntKind.signed, IntKind.bits] using h0
  have k1 : 0 ≤ top ∧ top ≤ 18446744073709551615 := by simpa [Lit.wf, IntKind.min, IntKind.max, IntKind.signed, IntKind.bits] using h1
  have k2 : -9223372036854775808 ≤ back ∧ back ≤ 9223372036854775807 := by simpa [Lit.wf, IntKind.min, IntKind.max, IntKind.signed, IntKind.bits] using h2
  exact behind_law win top back w k0.1 k0.2 k1.1 k2.2
end Go.Proofs.Ytklihfjchomkmaa
