-- Printed by a program, out of the translation.
import Derived.Test.YtblmbbllfiigmaaDoorPAllb0
namespace Go.Proofs.YtblmbbllfiigmaaDoor.PAll
open Go.RowKit Go.Proofs.YtblmbbllfiigmaaDoorW.PrintWords Go.Proofs.YtblmbbllfiigmaaDoorW.PrintLast Go.Proofs.YtblmbbllfiigmaaDoorW.PrintMore
attribute [local go_sem] max2_int min2_int max_two min_two max_three min_three max_four min_four   -- for this text's walks alone
set_option linter.unusedVariables false
set_option linter.unusedSimpArgs false

/-! ### spec_alike: function 27 -/
mutual
def spec_alike.j0 : Nat → Bool → Int → Int → Int → Int → ByteArray → Int → Int → Int → Int → Int → ByteArray → Int → Option (Bool)
 | 0, _, _, _, _, _, _, _, _, _, _, _, _, _ => none
 | k + 1, x25, x237000, x237001, x237002, x237003, x237004, x237005, x238000, x238001, x238002, x238003, x238004, x238005 => if x25 = true then (some false) else (spec_alike.l0 k 0 x237000 x237001 x237002 x237003 x237004 x237005 x238000 x238001 x238002 x238003 x238004 x238005)
def spec_alike.l0 : Nat → Int → Int → Int → Int → Int → ByteArray → Int → Int → Int → Int → Int → ByteArray → Int → Option (Bool)
 | 0, _, _, _, _, _, _, _, _, _, _, _, _, _ => none
 | k + 1, x5, x237000, x237001, x237002, x237003, x237004, x237005, x238000, x238001, x238002, x238003, x238004, x238005 => if x5 < (x237004.size : Int) then (if (wrap64 ((wrap64 (x237003 + x5)) - x238003)) ≥ 0 then (if (wrap64 ((wrap64 (x237003 + x5)) - x238003)) < (x238004.size : Int) then (if 0 ≤ x5 then (if 0 ≤ (wrap64 ((wrap64 (x237003 + x5)) - x238003)) then (if (bt x237004 x5) = (bt x238004 (wrap64 ((wrap64 (x237003 + x5)) - x238003))) then (spec_alike.l0 k (wrap64 (x5 + 1)) x237000 x237001 x237002 x237003 x237004 x237005 x238000 x238001 x238002 x238003 x238004 x238005) else (some false)) else (none)) else (none)) else (spec_alike.l0 k (wrap64 (x5 + 1)) x237000 x237001 x237002 x237003 x237004 x237005 x238000 x238001 x238002 x238003 x238004 x238005)) else (spec_alike.l0 k (wrap64 (x5 + 1)) x237000 x237001 x237002 x237003 x237004 x237005 x238000 x238001 x238002 x238003 x238004 x238005)) else (some true)
end
def spec_alike.f (k : Nat) (a0_0 : Int) (a0_1 : Int) (a0_2 : Int) (a0_3 : Int) (a0_4 : ByteArray) (a0_5 : Int) (a1_0 : Int) (a1_1 : Int) (a1_2 : Int) (a1_3 : Int) (a1_4 : ByteArray) (a1_5 : Int) : Option (Bool) := if a0_0 = a1_0 then (if a0_1 = a1_1 then (spec_alike.j0 k (a0_5 != a1_5) a0_0 a0_1 a0_2 a0_3 a0_4 a0_5 a1_0 a1_1 a1_2 a1_3 a1_4 a1_5) else (spec_alike.j0 k true a0_0 a0_1 a0_2 a0_3 a0_4 a0_5 a1_0 a1_1 a1_2 a1_3 a1_4 a1_5)) else (spec_alike.j0 k true a0_0 a0_1 a0_2 a0_3 a0_4 a0_5 a1_0 a1_1 a1_2 a1_3 a1_4 a1_5)
set_option maxHeartbeats 8000000 in
set_option maxRecDepth 100000 in
theorem spec_alike.calls (k : Nat) (a0_0 : Int) (a0_1 : Int) (a0_2 : Int) (a0_3 : Int) (a0_4 : ByteArray) (a0_5 : Int) (a1_0 : Int) (a1_1 : Int) (a1_2 : Int) (a1_3 : Int) (a1_4 : ByteArray) (a1_5 : Int) (r : Bool) (w : World) (h : spec_alike.f k a0_0 a0_1 a0_2 a0_3 a0_4 a0_5 a1_0 a1_1 a1_2 a1_3 a1_4 a1_5 = some r) :
  Calls Tryd.prog 27 #[.agg #[.int .u8 a0_0, .int .i64 a0_1, .int .i64 a0_2, .int .i64 a0_3, .string a0_4, .int .u16 a0_5], .agg #[.int .u8 a1_0, .int .i64 a1_1, .int .i64 a1_2, .int .i64 a1_3, .string a1_4, .int .u16 a1_5]] w fun e w' => e = .returned (.bool r) ∧ Below w.heap.size w w' := by
 have hu68 := Tryd.underlying68
 have HB := Aside0.mk (Below.refl w.heap.size w)
 have H : (if a0_0 = a1_0 then (if a0_1 = a1_1 then (spec_alike.j0 k (a0_5 != a1_5) a0_0 a0_1 a0_2 a0_3 a0_4 a0_5 a1_0 a1_1 a1_2 a1_3 a1_4 a1_5) else (spec_alike.j0 k true a0_0 a0_1 a0_2 a0_3 a0_4 a0_5 a1_0 a1_1 a1_2 a1_3 a1_4 a1_5)) else (spec_alike.j0 k true a0_0 a0_1 a0_2 a0_3 a0_4 a0_5 a1_0 a1_1 a1_2 a1_3 a1_4 a1_5)) = some r := h
 clear h
 have HC3 := Aside0.mk H
 clear H
 go_enter Tryd.func27, Tryd.ntmps27
 go_upto_region 1 with (first | ((with_reducible refine gate_dst (N := 2) rfl ?_); (try (refine gate_guard (by rfl) ?_; dsimp only)); refine box_event ?hg (N := 2) ?hd (cs := #[.int .u8 a0_0, .int .i64 a0_1, .int .i64 a0_2, .int .i64 a0_3, .string a0_4, .int .u16 a0_5]) (t := 68) ?hr ?_; (case hd => rfl); (case hg => rfl); (case hr => first | (go_simp; done) | (go_simp; rfl)); intro gb236 hg w4 hbox hb; have n0_ := Aside0.mk (below_step (by repeat (first | (with_reducible first | exact HB.out | apply below_alloc | apply pw_below_drewN | apply below_drew1) | exact HB.out)) hb); have n1_ := Aside0.mk (hbox); have n2_ := Aside0.mk ((by rw [hg]; exact (below_size (by repeat (first | (with_reducible first | exact HB.out | apply below_alloc | apply pw_below_drewN | apply below_drew1) | exact HB.out))) : w.heap.size ≤ gb236)); have n3_ := Aside0.mk ((by rw [hg]; exact (below_size (by repeat (first | (with_reducible first | exact HB.out | apply below_alloc | apply pw_below_drewN | apply below_drew1) | exact HB.out))) : w.heap.size ≤ gb236)); clear HB; have HB := n0_; have BK236 := n1_; have GW236 := n2_; have GE236 := n3_; clear n0_ n1_ n2_ n3_; clear hb hbox hg) | ((with_reducible refine gate_dst (N := 3) rfl ?_); (try (refine gate_guard (by rfl) ?_; dsimp only)); refine box_event ?hg (N := 3) ?hd (cs := #[.int .u8 a1_0, .int .i64 a1_1, .int .i64 a1_2, .int .i64 a1_3, .string a1_4, .int .u16 a1_5]) (t := 68) ?hr ?_; (case hd => rfl); (case hg => rfl); (case hr => first | (go_simp; done) | (go_simp; rfl)); intro gb237 hg w5 hbox hb; have n0_ := Aside0.mk (blk_below (g := gb236) (o := .cells #[.int .u8 a0_0, .int .i64 a0_1, .int .i64 a0_2, .int .i64 a0_3, .string a0_4, .int .u16 a0_5] 68 (0, 0)) (by (with_reducible repeat (first | refine blk_drewN ?_ _ | refine blk_drew ?_ | refine blk_alloc ?_ _)); exact BK236.out) hb); have n1_ := Aside0.mk (below_step (by repeat (first | (with_reducible first | exact HB.out | apply below_alloc | apply pw_below_drewN | apply below_drew1 | refine below_set ?_ GE236.out) | exact HB.out)) hb); have n2_ := Aside0.mk (hbox); have n3_ := Aside0.mk ((by rw [hg]; exact (below_size (by repeat (first | (with_reducible first | exact HB.out | apply below_alloc | apply pw_below_drewN | apply below_drew1 | refine below_set ?_ GE236.out) | exact HB.out))) : w.heap.size ≤ gb237)); have n4_ := Aside0.mk ((by rw [hg]; exact (below_size (by repeat (first | (with_reducible first | exact HB.out | apply below_alloc | apply pw_below_drewN | apply below_drew1 | refine below_set ?_ GE236.out) | exact HB.out))) : w.heap.size ≤ gb237)); have n5_ := Aside0.mk ((by rw [hg]; exact Nat.ne_of_lt (blk_lt (g := gb236) (o := .cells #[.int .u8 a0_0, .int .i64 a0_1, .int .i64 a0_2, .int .i64 a0_3, .string a0_4, .int .u16 a0_5] 68 (0, 0)) (by (with_reducible repeat (first | refine blk_drewN ?_ _ | refine blk_drew ?_ | refine blk_alloc ?_ _)); exact BK236.out)) : gb236 ≠ gb237)); have n6_ := Aside0.mk ((by rw [hg]; exact Nat.ne_of_gt (blk_lt (g := gb236) (o := .cells #[.int .u8 a0_0, .int .i64 a0_1, .int .i64 a0_2, .int .i64 a0_3, .string a0_4, .int .u16 a0_5] 68 (0, 0)) (by (with_reducible repeat (first | refine blk_drewN ?_ _ | refine blk_drew ?_ | refine blk_alloc ?_ _)); exact BK236.out)) : gb237 ≠ gb236)); clear BK236; clear HB; have BK236 := n0_; have HB := n1_; have BK237 := n2_; have GW237 := n3_; have GE237 := n4_; have NB236_237 := n5_; have NB237_236 := n6_; clear n0_ n1_ n2_ n3_ n4_ n5_ n6_; clear hb hbox hg))
 repeat (go_quiet (first | ((with_reducible refine gate_dst (N := 2) rfl ?_); (try (refine gate_guard (by rfl) ?_; dsimp only)); refine box_event ?hg (N := 2) ?hd (cs := #[.int .u8 a0_0, .int .i64 a0_1, .int .i64 a0_2, .int .i64 a0_3, .string a0_4, .int .u16 a0_5]) (t := 68) ?hr ?_; (case hd => rfl); (case hg => rfl); (case hr => first | (go_simp; done) | (go_simp; rfl)); intro gb236 hg w4 hbox hb; have n0_ := Aside0.mk (below_step (by repeat (first | (with_reducible first | exact HB.out | apply below_alloc | apply pw_below_drewN | apply below_drew1) | exact HB.out)) hb); have n1_ := Aside0.mk (hbox); have n2_ := Aside0.mk ((by rw [hg]; exact (below_size (by repeat (first | (with_reducible first | exact HB.out | apply below_alloc | apply pw_below_drewN | apply below_drew1) | exact HB.out))) : w.heap.size ≤ gb236)); have n3_ := Aside0.mk ((by rw [hg]; exact (below_size (by repeat (first | (with_reducible first | exact HB.out | apply below_alloc | apply pw_below_drewN | apply below_drew1) | exact HB.out))) : w.heap.size ≤ gb236)); clear HB; have HB := n0_; have BK236 := n1_; have GW236 := n2_; have GE236 := n3_; clear n0_ n1_ n2_ n3_; clear hb hbox hg) | ((with_reducible refine gate_dst (N := 3) rfl ?_); (try (refine gate_guard (by rfl) ?_; dsimp only)); refine box_event ?hg (N := 3) ?hd (cs := #[.int .u8 a1_0, .int .i64 a1_1, .int .i64 a1_2, .int .i64 a1_3, .string a1_4, .int .u16 a1_5]) (t := 68) ?hr ?_; (case hd => rfl); (case hg => rfl); (case hr => first | (go_simp; done) | (go_simp; rfl)); intro gb237 hg w5 hbox hb; have n0_ := Aside0.mk (blk_below (g := gb236) (o := .cells #[.int .u8 a0_0, .int .i64 a0_1, .int .i64 a0_2, .int .i64 a0_3, .string a0_4, .int .u16 a0_5] 68 (0, 0)) (by (with_reducible repeat (first | refine blk_drewN ?_ _ | refine blk_drew ?_ | refine blk_alloc ?_ _)); exact BK236.out) hb); have n1_ := Aside0.mk (below_step (by repeat (first | (with_reducible first | exact HB.out | apply below_alloc | apply pw_below_drewN | apply below_drew1 | refine below_set ?_ GE236.out) | exact HB.out)) hb); have n2_ := Aside0.mk (hbox); have n3_ := Aside0.mk ((by rw [hg]; exact (below_size (by repeat (first | (with_reducible first | exact HB.out | apply below_alloc | apply pw_below_drewN | apply below_drew1 | refine below_set ?_ GE236.out) | exact HB.out))) : w.heap.size ≤ gb237)); have n4_ := Aside0.mk ((by rw [hg]; exact (below_size (by repeat (first | (with_reducible first | exact HB.out | apply below_alloc | apply pw_below_drewN | apply below_drew1 | refine below_set ?_ GE236.out) | exact HB.out))) : w.heap.size ≤ gb237)); have n5_ := Aside0.mk ((by rw [hg]; exact Nat.ne_of_lt (blk_lt (g := gb236) (o := .cells #[.int .u8 a0_0, .int .i64 a0_1, .int .i64 a0_2, .int .i64 a0_3, .string a0_4, .int .u16 a0_5] 68 (0, 0)) (by (with_reducible repeat (first | refine blk_drewN ?_ _ | refine blk_drew ?_ | refine blk_alloc ?_ _)); exact BK236.out)) : gb236 ≠ gb237)); have n6_ := Aside0.mk ((by rw [hg]; exact Nat.ne_of_gt (blk_lt (g := gb236) (o := .cells #[.int .u8 a0_0, .int .i64 a0_1, .int .i64 a0_2, .int .i64 a0_3, .string a0_4, .int .u16 a0_5] 68 (0, 0)) (by (with_reducible repeat (first | refine blk_drewN ?_ _ | refine blk_drew ?_ | refine blk_alloc ?_ _)); exact BK236.out)) : gb237 ≠ gb236)); clear BK236; clear HB; have BK236 := n0_; have HB := n1_; have BK237 := n2_; have GW237 := n3_; have GE237 := n4_; have NB236_237 := n5_; have NB237_236 := n6_; clear n0_ n1_ n2_ n3_ n4_ n5_ n6_; clear hb hbox hg)); go_upto_region 1 with (first | ((with_reducible refine gate_dst (N := 2) rfl ?_); (try (refine gate_guard (by rfl) ?_; dsimp only)); refine box_event ?hg (N := 2) ?hd (cs := #[.int .u8 a0_0, .int .i64 a0_1, .int .i64 a0_2, .int .i64 a0_3, .string a0_4, .int .u16 a0_5]) (t := 68) ?hr ?_; (case hd => rfl); (case hg => rfl); (case hr => first | (go_simp; done) | (go_simp; rfl)); intro gb236 hg w4 hbox hb; have n0_ := Aside0.mk (below_step (by repeat (first | (with_reducible first | exact HB.out | apply below_alloc | apply pw_below_drewN | apply below_drew1) | exact HB.out)) hb); have n1_ := Aside0.mk (hbox); have n2_ := Aside0.mk ((by rw [hg]; exact (below_size (by repeat (first | (with_reducible first | exact HB.out | apply below_alloc | apply pw_below_drewN | apply below_drew1) | exact HB.out))) : w.heap.size ≤ gb236)); have n3_ := Aside0.mk ((by rw [hg]; exact (below_size (by repeat (first | (with_reducible first | exact HB.out | apply below_alloc | apply pw_below_drewN | apply below_drew1) | exact HB.out))) : w.heap.size ≤ gb236)); clear HB; have HB := n0_; have BK236 := n1_; have GW236 := n2_; have GE236 := n3_; clear n0_ n1_ n2_ n3_; clear hb hbox hg) | ((with_reducible refine gate_dst (N := 3) rfl ?_); (try (refine gate_guard (by rfl) ?_; dsimp only)); refine box_event ?hg (N := 3) ?hd (cs := #[.int .u8 a1_0, .int .i64 a1_1, .int .i64 a1_2, .int .i64 a1_3, .string a1_4, .int .u16 a1_5]) (t := 68) ?hr ?_; (case hd => rfl); (case hg => rfl); (case hr => first | (go_simp; done) | (go_simp; rfl)); intro gb237 hg w5 hbox hb; have n0_ := Aside0.mk (blk_below (g := gb236) (o := .cells #[.int .u8 a0_0, .int .i64 a0_1, .int .i64 a0_2, .int .i64 a0_3, .string a0_4, .int .u16 a0_5] 68 (0, 0)) (by (with_reducible repeat (first | refine blk_drewN ?_ _ | refine blk_drew ?_ | refine blk_alloc ?_ _)); exact BK236.out) hb); have n1_ := Aside0.mk (below_step (by repeat (first | (with_reducible first | exact HB.out | apply below_alloc | apply pw_below_drewN | apply below_drew1 | refine below_set ?_ GE236.out) | exact HB.out)) hb); have n2_ := Aside0.mk (hbox); have n3_ := Aside0.mk ((by rw [hg]; exact (below_size (by repeat (first | (with_reducible first | exact HB.out | apply below_alloc | apply pw_below_drewN | apply below_drew1 | refine below_set ?_ GE236.out) | exact HB.out))) : w.heap.size ≤ gb237)); have n4_ := Aside0.mk ((by rw [hg]; exact (below_size (by repeat (first | (with_reducible first | exact HB.out | apply below_alloc | apply pw_below_drewN | apply below_drew1 | refine below_set ?_ GE236.out) | exact HB.out))) : w.heap.size ≤ gb237)); have n5_ := Aside0.mk ((by rw [hg]; exact Nat.ne_of_lt (blk_lt (g := gb236) (o := .cells #[.int .u8 a0_0, .int .i64 a0_1, .int .i64 a0_2, .int .i64 a0_3, .string a0_4, .int .u16 a0_5] 68 (0, 0)) (by (with_reducible repeat (first | refine blk_drewN ?_ _ | refine blk_drew ?_ | refine blk_alloc ?_ _)); exact BK236.out)) : gb236 ≠ gb237)); have n6_ := Aside0.mk ((by rw [hg]; exact Nat.ne_of_gt (blk_lt (g := gb236) (o := .cells #[.int .u8 a0_0, .int .i64 a0_1, .int .i64 a0_2, .int .i64 a0_3, .string a0_4, .int .u16 a0_5] 68 (0, 0)) (by (with_reducible repeat (first | refine blk_drewN ?_ _ | refine blk_drew ?_ | refine blk_alloc ?_ _)); exact BK236.out)) : gb237 ≠ gb236)); clear BK236; clear HB; have BK236 := n0_; have HB := n1_; have BK237 := n2_; have GW237 := n3_; have GE237 := n4_; have NB236_237 := n5_; have NB237_236 := n6_; clear n0_ n1_ n2_ n3_ n4_ n5_ n6_; clear hb hbox hg)))
 (try simp only [Act.put, List.setIfInBounds_toArray, List.set_cons_zero, List.set_cons_succ])
 go_cut [25] (fun v25 wc => ∃ (kq : Nat) (x25_2 : Bool), v25 = .bool x25_2 ∧ Aside0 (spec_alike.j0 kq x25_2 a0_0 a0_1 a0_2 a0_3 a0_4 a0_5 a1_0 a1_1 a1_2 a1_3 a1_4 a1_5 = some r) ∧ Aside0 (kq ≤ k) ∧ Aside0 (wc.heap[gb236]? = some (.cells #[.int .u8 a0_0, .int .i64 a0_1, .int .i64 a0_2, .int .i64 a0_3, .string a0_4, .int .u16 a0_5] 68 (0, 0))) ∧ Aside0 (wc.heap[gb237]? = some (.cells #[.int .u8 a1_0, .int .i64 a1_1, .int .i64 a1_2, .int .i64 a1_3, .string a1_4, .int .u16 a1_5] 68 (0, 0))) ∧ Aside0 (Below w.heap.size w wc))
 case first =>
  have H := HC3.out
  clear HC3
  by_cases c6 : a0_0 = a1_0
  rotate_left
  ·rw [if_neg c6] at H
   have c6b0 : (a0_0 == a1_0) = false := beq_eq_false_iff_ne.mpr c6
   have c6b1 : (a0_0 != a1_0) = true := bne_iff_ne.mpr c6
   (first | rw [c6b0] | (simp only [i64_w, i32_w]; rw [c6b0]) | skip)
   have H' := Aside0.mk H
   clear H
   have hnb14 := NB236_237.out
   have hnc14 := NB237_236.out
   have hcz15_0 : w5.cell? ⟨gb236, 0, none⟩ = some (.int .u8 a0_0) := (blk_cell BK236.out 0).trans rfl
   have hcz15_1 : w5.cell? ⟨gb236, 1, none⟩ = some (.int .i64 a0_1) := (blk_cell BK236.out 1).trans rfl
   have hcz15_2 : w5.cell? ⟨gb236, 2, none⟩ = some (.int .i64 a0_2) := (blk_cell BK236.out 2).trans rfl
   have hcz15_3 : w5.cell? ⟨gb236, 3, none⟩ = some (.int .i64 a0_3) := (blk_cell BK236.out 3).trans rfl
   have hcz15_4 : w5.cell? ⟨gb236, 4, none⟩ = some (.string a0_4) := (blk_cell BK236.out 4).trans rfl
   have hcz15_5 : w5.cell? ⟨gb236, 5, none⟩ = some (.int .u16 a0_5) := (blk_cell BK236.out 5).trans rfl
   have hfz15_0 := blk_frozen BK236.out 0
   have hfz15_1 := blk_frozen BK236.out 1
   have hfz15_2 := blk_frozen BK236.out 2
   have hfz15_3 := blk_frozen BK236.out 3
   have hfz15_4 := blk_frozen BK236.out 4
   have hfz15_5 := blk_frozen BK236.out 5
   have hcz16_0 : w5.cell? ⟨gb237, 0, none⟩ = some (.int .u8 a1_0) := (blk_cell BK237.out 0).trans rfl
   have hcz16_1 : w5.cell? ⟨gb237, 1, none⟩ = some (.int .i64 a1_1) := (blk_cell BK237.out 1).trans rfl
   have hcz16_2 : w5.cell? ⟨gb237, 2, none⟩ = some (.int .i64 a1_2) := (blk_cell BK237.out 2).trans rfl
   have hcz16_3 : w5.cell? ⟨gb237, 3, none⟩ = some (.int .i64 a1_3) := (blk_cell BK237.out 3).trans rfl
   have hcz16_4 : w5.cell? ⟨gb237, 4, none⟩ = some (.string a1_4) := (blk_cell BK237.out 4).trans rfl
   have hcz16_5 : w5.cell? ⟨gb237, 5, none⟩ = some (.int .u16 a1_5) := (blk_cell BK237.out 5).trans rfl
   have hfz16_0 := blk_frozen BK237.out 0
   have hfz16_1 := blk_frozen BK237.out 1
   have hfz16_2 := blk_frozen BK237.out 2
   have hfz16_3 := blk_frozen BK237.out 3
   have hfz16_4 := blk_frozen BK237.out 4
   have hfz16_5 := blk_frozen BK237.out 5
   go_wp2
   repeat (go_quiet (fail); try go_wp2)
   go_meet
   case rel => exact ⟨_, (true), (by first | rfl | (simp; done) | (simp [*]; done)), H', ⟨by first | omega | exact Nat.le_refl _⟩, ⟨by (with_reducible repeat (first | refine blk_drewN ?_ _ | refine blk_drew ?_ | refine blk_alloc ?_ _)); exact BK236.out⟩, ⟨by (with_reducible repeat (first | refine blk_drewN ?_ _ | refine blk_drew ?_ | refine blk_alloc ?_ _)); exact BK237.out⟩, ⟨by repeat (first | (with_reducible first | exact HB.out | apply below_alloc | apply pw_below_drewN | apply below_drew1 | refine below_set ?_ GE236.out | refine below_set ?_ GE237.out) | exact HB.out)⟩⟩
  rw [if_pos c6] at H
  have c6b0 : (a0_0 == a1_0) = true := beq_iff_eq.mpr c6
  have c6b1 : (a0_0 != a1_0) = false := bne_eq_false_iff_eq.mpr c6
  clear c6
  (first | rw [c6b0] | (simp only [i64_w, i32_w]; rw [c6b0]) | skip)
  by_cases c7 : a0_1 = a1_1
  rotate_left
  ·rw [if_neg c7] at H
   have c7b0 : (a0_1 == a1_1) = false := beq_eq_false_iff_ne.mpr c7
   have c7b1 : (a0_1 != a1_1) = true := bne_iff_ne.mpr c7
   have H' := Aside0.mk H
   clear H
   have hnb11 := NB236_237.out
   have hnc11 := NB237_236.out
   have hcz12_0 : w5.cell? ⟨gb236, 0, none⟩ = some (.int .u8 a0_0) := (blk_cell BK236.out 0).trans rfl
   have hcz12_1 : w5.cell? ⟨gb236, 1, none⟩ = some (.int .i64 a0_1) := (blk_cell BK236.out 1).trans rfl
   have hcz12_2 : w5.cell? ⟨gb236, 2, none⟩ = some (.int .i64 a0_2) := (blk_cell BK236.out 2).trans rfl
   have hcz12_3 : w5.cell? ⟨gb236, 3, none⟩ = some (.int .i64 a0_3) := (blk_cell BK236.out 3).trans rfl
   have hcz12_4 : w5.cell? ⟨gb236, 4, none⟩ = some (.string a0_4) := (blk_cell BK236.out 4).trans rfl
   have hcz12_5 : w5.cell? ⟨gb236, 5, none⟩ = some (.int .u16 a0_5) := (blk_cell BK236.out 5).trans rfl
   have hfz12_0 := blk_frozen BK236.out 0
   have hfz12_1 := blk_frozen BK236.out 1
   have hfz12_2 := blk_frozen BK236.out 2
   have hfz12_3 := blk_frozen BK236.out 3
   have hfz12_4 := blk_frozen BK236.out 4
   have hfz12_5 := blk_frozen BK236.out 5
   have hcz13_0 : w5.cell? ⟨gb237, 0, none⟩ = some (.int .u8 a1_0) := (blk_cell BK237.out 0).trans rfl
   have hcz13_1 : w5.cell? ⟨gb237, 1, none⟩ = some (.int .i64 a1_1) := (blk_cell BK237.out 1).trans rfl
   have hcz13_2 : w5.cell? ⟨gb237, 2, none⟩ = some (.int .i64 a1_2) := (blk_cell BK237.out 2).trans rfl
   have hcz13_3 : w5.cell? ⟨gb237, 3, none⟩ = some (.int .i64 a1_3) := (blk_cell BK237.out 3).trans rfl
   have hcz13_4 : w5.cell? ⟨gb237, 4, none⟩ = some (.string a1_4) := (blk_cell BK237.out 4).trans rfl
   have hcz13_5 : w5.cell? ⟨gb237, 5, none⟩ = some (.int .u16 a1_5) := (blk_cell BK237.out 5).trans rfl
   have hfz13_0 := blk_frozen BK237.out 0
   have hfz13_1 := blk_frozen BK237.out 1
   have hfz13_2 := blk_frozen BK237.out 2
   have hfz13_3 := blk_frozen BK237.out 3
   have hfz13_4 := blk_frozen BK237.out 4
   have hfz13_5 := blk_frozen BK237.out 5
   go_wp2
   repeat (go_quiet (fail); try go_wp2)
   go_meet
   case rel => exact ⟨_, (true), (by first | rfl | (simp; done) | (simp [*]; done)), H', ⟨by first | omega | exact Nat.le_refl _⟩, ⟨by (with_reducible repeat (first | refine blk_drewN ?_ _ | refine blk_drew ?_ | refine blk_alloc ?_ _)); exact BK236.out⟩, ⟨by (with_reducible repeat (first | refine blk_drewN ?_ _ | refine blk_drew ?_ | refine blk_alloc ?_ _)); exact BK237.out⟩, ⟨by repeat (first | (with_reducible first | exact HB.out | apply below_alloc | apply pw_below_drewN | apply below_drew1 | refine below_set ?_ GE236.out | refine below_set ?_ GE237.out) | exact HB.out)⟩⟩
  rw [if_pos c7] at H
  have c7b0 : (a0_1 == a1_1) = true := beq_iff_eq.mpr c7
  have c7b1 : (a0_1 != a1_1) = false := bne_eq_false_iff_eq.mpr c7
  clear c7
  have H' := Aside0.mk H
  clear H
  have hnb8 := NB236_237.out
  have hnc8 := NB237_236.out
  have hcz9_0 : w5.cell? ⟨gb236, 0, none⟩ = some (.int .u8 a0_0) := (blk_cell BK236.out 0).trans rfl
  have hcz9_1 : w5.cell? ⟨gb236, 1, none⟩ = some (.int .i64 a0_1) := (blk_cell BK236.out 1).trans rfl
  have hcz9_2 : w5.cell? ⟨gb236, 2, none⟩ = some (.int .i64 a0_2) := (blk_cell BK236.out 2).trans rfl
  have hcz9_3 : w5.cell? ⟨gb236, 3, none⟩ = some (.int .i64 a0_3) := (blk_cell BK236.out 3).trans rfl
  have hcz9_4 : w5.cell? ⟨gb236, 4, none⟩ = some (.string a0_4) := (blk_cell BK236.out 4).trans rfl
  have hcz9_5 : w5.cell? ⟨gb236, 5, none⟩ = some (.int .u16 a0_5) := (blk_cell BK236.out 5).trans rfl
  have hfz9_0 := blk_frozen BK236.out 0
  have hfz9_1 := blk_frozen BK236.out 1
  have hfz9_2 := blk_frozen BK236.out 2
  have hfz9_3 := blk_frozen BK236.out 3
  have hfz9_4 := blk_frozen BK236.out 4
  have hfz9_5 := blk_frozen BK236.out 5
  have hcz10_0 : w5.cell? ⟨gb237, 0, none⟩ = some (.int .u8 a1_0) := (blk_cell BK237.out 0).trans rfl
  have hcz10_1 : w5.cell? ⟨gb237, 1, none⟩ = some (.int .i64 a1_1) := (blk_cell BK237.out 1).trans rfl
  have hcz10_2 : w5.cell? ⟨gb237, 2, none⟩ = some (.int .i64 a1_2) := (blk_cell BK237.out 2).trans rfl
  have hcz10_3 : w5.cell? ⟨gb237, 3, none⟩ = some (.int .i64 a1_3) := (blk_cell BK237.out 3).trans rfl
  have hcz10_4 : w5.cell? ⟨gb237, 4, none⟩ = some (.string a1_4) := (blk_cell BK237.out 4).trans rfl
  have hcz10_5 : w5.cell? ⟨gb237, 5, none⟩ = some (.int .u16 a1_5) := (blk_cell BK237.out 5).trans rfl
  have hfz10_0 := blk_frozen BK237.out 0
  have hfz10_1 := blk_frozen BK237.out 1
  have hfz10_2 := blk_frozen BK237.out 2
  have hfz10_3 := blk_frozen BK237.out 3
  have hfz10_4 := blk_frozen BK237.out 4
  have hfz10_5 := blk_frozen BK237.out 5
  go_wp2
  repeat (go_quiet (fail); try go_wp2)
  go_meet
  case rel => exact ⟨_, ((a0_5 != a1_5)), (by first | rfl | (simp; done) | (simp [*]; done)), H', ⟨by first | omega | exact Nat.le_refl _⟩, ⟨by (with_reducible repeat (first | refine blk_drewN ?_ _ | refine blk_drew ?_ | refine blk_alloc ?_ _)); exact BK236.out⟩, ⟨by (with_reducible repeat (first | refine blk_drewN ?_ _ | refine blk_drew ?_ | refine blk_alloc ?_ _)); exact BK237.out⟩, ⟨by repeat (first | (with_reducible first | exact HB.out | apply below_alloc | apply pw_below_drewN | apply below_drew1 | refine below_set ?_ GE236.out | refine below_set ?_ GE237.out) | exact HB.out)⟩⟩
 case rest =>
  clear HC3
  try clear c1
  try clear c2
  try clear p2
  try clear c6
  try clear c6b0
  try clear c6b1
  try clear c7
  try clear c7b0
  try clear c7b1
  try clear c8
  try clear c11
  try clear c14
  try clear hcz10_0
  try clear hcz10_1
  try clear hcz10_2
  try clear hcz10_3
  try clear hcz10_4
  try clear hcz10_5
  try clear hcz12_0
  try clear hcz12_1
  try clear hcz12_2
  try clear hcz12_3
  try clear hcz12_4
  try clear hcz12_5
  try clear hcz13_0
  try clear hcz13_1
  try clear hcz13_2
  try clear hcz13_3
  try clear hcz13_4
  try clear hcz13_5
  try clear hcz15_0
  try clear hcz15_1
  try clear hcz15_2
  try clear hcz15_3
  try clear hcz15_4
  try clear hcz15_5
  try clear hcz16_0
  try clear hcz16_1
  try clear hcz16_2
  try clear hcz16_3
  try clear hcz16_4
  try clear hcz16_5
  try clear hcz9_0
  try clear hcz9_1
  try clear hcz9_2
  try clear hcz9_3
  try clear hcz9_4
  try clear hcz9_5
  try clear hfz10_0
  try clear hfz10_1
  try clear hfz10_2
  try clear hfz10_3
  try clear hfz10_4
  try clear hfz10_5
  try clear hfz12_0
  try clear hfz12_1
  try clear hfz12_2
  try clear hfz12_3
  try clear hfz12_4
  try clear hfz12_5
  try clear hfz13_0
  try clear hfz13_1
  try clear hfz13_2
  try clear hfz13_3
  try clear hfz13_4
  try clear hfz13_5
  try clear hfz15_0
  try clear hfz15_1
  try clear hfz15_2
  try clear hfz15_3
  try clear hfz15_4
  try clear hfz15_5
  try clear hfz16_0
  try clear hfz16_1
  try clear hfz16_2
  try clear hfz16_3
  try clear hfz16_4
  try clear hfz16_5
  try clear hfz9_0
  try clear hfz9_1
  try clear hfz9_2
  try clear hfz9_3
  try clear hfz9_4
  try clear hfz9_5
  obtain ⟨kq, x25_2, rfl, HA, HJ2, BK236, BK237, HB⟩ := hcut
  cases kq with
  | zero => exact absurd HA.out (by simp [spec_alike.j0])
  | succ kj2 =>
   have H := HA.out
   clear HA
   simp only [spec_alike.j0] at H
   by_cases c17 : x25_2 = true
   ·subst c17
    have H1 : (some false) = some r := by rw [if_pos rfl] at H; exact H
    clear H
    have H := H1
    clear H1
    obtain rfl := Option.some.inj H
    go_wp2
    repeat (go_quiet (fail); try go_wp2)
    go_ret
    exact ⟨by first | rfl | (simp [errW_none, errW_some] <;> rfl) | (simp [*, errW_none, errW_some] <;> rfl), by repeat (first | (with_reducible first | exact HB.out | apply below_alloc | apply pw_below_drewN | apply below_drew1 | refine below_set ?_ GE236.out | refine below_set ?_ GE237.out) | exact HB.out)⟩
   replace c17 := Bool.eq_false_iff.mpr c17
   subst c17
   have H1 : (spec_alike.l0 kj2 0 a0_0 a0_1 a0_2 a0_3 a0_4 a0_5 a1_0 a1_1 a1_2 a1_3 a1_4 a1_5) = some r := by rw [if_neg (show ¬ (false = true) by decide)] at H; exact H
   clear H
   have H := H1
   clear H1
   have H' := Aside0.mk H
   clear H
   go_wp2
   repeat (go_quiet (fail); try go_wp2)
   go_loopg [5] kj2 (fun kq v5 w' => ∃ (x5_2 : Int), v5 = .int .i64 x5_2 ∧ Aside0 (spec_alike.l0 kq x5_2 a0_0 a0_1 a0_2 a0_3 a0_4 a0_5 a1_0 a1_1 a1_2 a1_3 a1_4 a1_5 = some r) ∧ Aside0 (kq ≤ kj2) ∧ Aside0 (w'.heap[gb236]? = some (.cells #[.int .u8 a0_0, .int .i64 a0_1, .int .i64 a0_2, .int .i64 a0_3, .string a0_4, .int .u16 a0_5] 68 (0, 0))) ∧ Aside0 (w'.heap[gb237]? = some (.cells #[.int .u8 a1_0, .int .i64 a1_1, .int .i64 a1_2, .int .i64 a1_3, .string a1_4, .int .u16 a1_5] 68 (0, 0))) ∧ Aside0 (Below w.heap.size w w'))
   case atStart => exact ⟨(0), (by first | rfl | (simp; done) | (simp [*]; done)), H', ⟨Nat.le_refl _⟩, ⟨by (with_reducible repeat (first | refine blk_drewN ?_ _ | refine blk_drew ?_ | refine blk_alloc ?_ _)); exact BK236.out⟩, ⟨by (with_reducible repeat (first | refine blk_drewN ?_ _ | refine blk_drew ?_ | refine blk_alloc ?_ _)); exact BK237.out⟩, ⟨by repeat (first | (with_reducible first | exact HB.out | apply below_alloc | apply pw_below_drewN | apply below_drew1 | refine below_set ?_ GE236.out | refine below_set ?_ GE237.out) | exact HB.out)⟩⟩
   case round =>
    clear H'
    try clear c1
    try clear c2
    try clear p2
    try clear c6
    try clear c6b0
    try clear c6b1
    try clear c7
    try clear c7b0
    try clear c7b1
    try clear c8
    try clear c11
    try clear c14
    try clear c17
    try clear hcz10_0
    try clear hcz10_1
    try clear hcz10_2
    try clear hcz10_3
    try clear hcz10_4
    try clear hcz10_5
    try clear hcz12_0
    try clear hcz12_1
    try clear hcz12_2
    try clear hcz12_3
    try clear hcz12_4
    try clear hcz12_5
    try clear hcz13_0
    try clear hcz13_1
    try clear hcz13_2
    try clear hcz13_3
    try clear hcz13_4
    try clear hcz13_5
    try clear hcz15_0
    try clear hcz15_1
    try clear hcz15_2
    try clear hcz15_3
    try clear hcz15_4
    try clear hcz15_5
    try clear hcz16_0
    try clear hcz16_1
    try clear hcz16_2
    try clear hcz16_3
    try clear hcz16_4
    try clear hcz16_5
    try clear hcz9_0
    try clear hcz9_1
    try clear hcz9_2
    try clear hcz9_3
    try clear hcz9_4
    try clear hcz9_5
    try clear hfz10_0
    try clear hfz10_1
    try clear hfz10_2
    try clear hfz10_3
    try clear hfz10_4
    try clear hfz10_5
    try clear hfz12_0
    try clear hfz12_1
    try clear hfz12_2
    try clear hfz12_3
    try clear hfz12_4
    try clear hfz12_5
    try clear hfz13_0
    try clear hfz13_1
    try clear hfz13_2
    try clear hfz13_3
    try clear hfz13_4
    try clear hfz13_5
    try clear hfz15_0
    try clear hfz15_1
    try clear hfz15_2
    try clear hfz15_3
    try clear hfz15_4
    try clear hfz15_5
    try clear hfz16_0
    try clear hfz16_1
    try clear hfz16_2
    try clear hfz16_3
    try clear hfz16_4
    try clear hfz16_5
    try clear hfz9_0
    try clear hfz9_1
    try clear hfz9_2
    try clear hfz9_3
    try clear hfz9_4
    try clear hfz9_5
    try clear p2
    obtain ⟨x5_2, rfl, HA, HK2, BK236, BK237, HB⟩ := hrel
    cases gk with
    | zero => exact absurd HA.out (by simp [spec_alike.l0])
    | succ k2 =>
     have H := HA.out
     clear HA
     simp only [spec_alike.l0] at H
     by_cases c18 : x5_2 < (a0_4.size : Int)
     rotate_left
     ·rw [if_neg c18] at H
      have c18b0 : decide (x5_2 < (a0_4.size : Int)) = false := decide_eq_false c18
      clear c18
      obtain rfl := Option.some.inj H
      have hnb39 := NB236_237.out
      have hnc39 := NB237_236.out
      have hcz40_0 : wr.cell? ⟨gb236, 0, none⟩ = some (.int .u8 a0_0) := (blk_cell BK236.out 0).trans rfl
      have hcz40_1 : wr.cell? ⟨gb236, 1, none⟩ = some (.int .i64 a0_1) := (blk_cell BK236.out 1).trans rfl
      have hcz40_2 : wr.cell? ⟨gb236, 2, none⟩ = some (.int .i64 a0_2) := (blk_cell BK236.out 2).trans rfl
      have hcz40_3 : wr.cell? ⟨gb236, 3, none⟩ = some (.int .i64 a0_3) := (blk_cell BK236.out 3).trans rfl
      have hcz40_4 : wr.cell? ⟨gb236, 4, none⟩ = some (.string a0_4) := (blk_cell BK236.out 4).trans rfl
      have hcz40_5 : wr.cell? ⟨gb236, 5, none⟩ = some (.int .u16 a0_5) := (blk_cell BK236.out 5).trans rfl
      have hfz40_0 := blk_frozen BK236.out 0
      have hfz40_1 := blk_frozen BK236.out 1
      have hfz40_2 := blk_frozen BK236.out 2
      have hfz40_3 := blk_frozen BK236.out 3
      have hfz40_4 := blk_frozen BK236.out 4
      have hfz40_5 := blk_frozen BK236.out 5
      go_wp2
      repeat (go_quiet (fail); try go_wp2)
      go_ret
      exact ⟨by first | rfl | (simp [errW_none, errW_some] <;> rfl) | (simp [*, errW_none, errW_some] <;> rfl), by repeat (first | (with_reducible first | exact HB.out | apply below_alloc | apply pw_below_drewN | apply below_drew1 | refine below_set ?_ GE236.out | refine below_set ?_ GE237.out) | exact HB.out)⟩
     rw [if_pos c18] at H
     have c18b0 : decide (x5_2 < (a0_4.size : Int)) = true := decide_eq_true c18
     clear c18
     by_cases c19 : (wrap64 ((wrap64 (a0_3 + x5_2)) - a1_3)) ≥ 0
     rotate_left
     ·rw [if_neg c19] at H
      have c19b0 : decide (0 ≤ (wrap64 ((wrap64 (a0_3 + x5_2)) - a1_3))) = false := decide_eq_false c19
      clear c19
      have H' := Aside0.mk H
      clear H
      have hnb36 := NB236_237.out
      have hnc36 := NB237_236.out
      have hcz37_0 : wr.cell? ⟨gb236, 0, none⟩ = some (.int .u8 a0_0) := (blk_cell BK236.out 0).trans rfl
      have hcz37_1 : wr.cell? ⟨gb236, 1, none⟩ = some (.int .i64 a0_1) := (blk_cell BK236.out 1).trans rfl
      have hcz37_2 : wr.cell? ⟨gb236, 2, none⟩ = some (.int .i64 a0_2) := (blk_cell BK236.out 2).trans rfl
      have hcz37_3 : wr.cell? ⟨gb236, 3, none⟩ = some (.int .i64 a0_3) := (blk_cell BK236.out 3).trans rfl
      have hcz37_4 : wr.cell? ⟨gb236, 4, none⟩ = some (.string a0_4) := (blk_cell BK236.out 4).trans rfl
      have hcz37_5 : wr.cell? ⟨gb236, 5, none⟩ = some (.int .u16 a0_5) := (blk_cell BK236.out 5).trans rfl
      have hfz37_0 := blk_frozen BK236.out 0
      have hfz37_1 := blk_frozen BK236.out 1
      have hfz37_2 := blk_frozen BK236.out 2
      have hfz37_3 := blk_frozen BK236.out 3
      have hfz37_4 := blk_frozen BK236.out 4
      have hfz37_5 := blk_frozen BK236.out 5
      have hcz38_0 : wr.cell? ⟨gb237, 0, none⟩ = some (.int .u8 a1_0) := (blk_cell BK237.out 0).trans rfl
      have hcz38_1 : wr.cell? ⟨gb237, 1, none⟩ = some (.int .i64 a1_1) := (blk_cell BK237.out 1).trans rfl
      have hcz38_2 : wr.cell? ⟨gb237, 2, none⟩ = some (.int .i64 a1_2) := (blk_cell BK237.out 2).trans rfl
      have hcz38_3 : wr.cell? ⟨gb237, 3, none⟩ = some (.int .i64 a1_3) := (blk_cell BK237.out 3).trans rfl
      have hcz38_4 : wr.cell? ⟨gb237, 4, none⟩ = some (.string a1_4) := (blk_cell BK237.out 4).trans rfl
      have hcz38_5 : wr.cell? ⟨gb237, 5, none⟩ = some (.int .u16 a1_5) := (blk_cell BK237.out 5).trans rfl
      have hfz38_0 := blk_frozen BK237.out 0
      have hfz38_1 := blk_frozen BK237.out 1
      have hfz38_2 := blk_frozen BK237.out 2
      have hfz38_3 := blk_frozen BK237.out 3
      have hfz38_4 := blk_frozen BK237.out 4
      have hfz38_5 := blk_frozen BK237.out 5
      go_wp2
      repeat (go_quiet (fail); try go_wp2)
      go_roundg k2
      case measure => have := HJ2.out; have := HK2.out; omega
      case rel => exact ⟨(wrap64 (x5_2 + 1)), (by first | rfl | (simp; done) | (simp [*]; done)), H', ⟨by have := HJ2.out; have := HK2.out; omega⟩, ⟨by (with_reducible repeat (first | refine blk_drewN ?_ _ | refine blk_drew ?_ | refine blk_alloc ?_ _)); exact BK236.out⟩, ⟨by (with_reducible repeat (first | refine blk_drewN ?_ _ | refine blk_drew ?_ | refine blk_alloc ?_ _)); exact BK237.out⟩, ⟨by repeat (first | (with_reducible first | exact HB.out | apply below_alloc | apply pw_below_drewN | apply below_drew1 | refine below_set ?_ GE236.out | refine below_set ?_ GE237.out) | exact HB.out)⟩⟩
     rw [if_pos c19] at H
     have c19b0 : decide (0 ≤ (wrap64 ((wrap64 (a0_3 + x5_2)) - a1_3))) = true := decide_eq_true c19
     clear c19
     by_cases c20 : (wrap64 ((wrap64 (a0_3 + x5_2)) - a1_3)) < (a1_4.size : Int)
     rotate_left
     ·rw [if_neg c20] at H
      have c20b0 : decide ((wrap64 ((wrap64 (a0_3 + x5_2)) - a1_3)) < (a1_4.size : Int)) = false := decide_eq_false c20
      clear c20
      have H' := Aside0.mk H
      clear H
      have hnb33 := NB236_237.out
      have hnc33 := NB237_236.out
      have hcz34_0 : wr.cell? ⟨gb236, 0, none⟩ = some (.int .u8 a0_0) := (blk_cell BK236.out 0).trans rfl
      have hcz34_1 : wr.cell? ⟨gb236, 1, none⟩ = some (.int .i64 a0_1) := (blk_cell BK236.out 1).trans rfl
      have hcz34_2 : wr.cell? ⟨gb236, 2, none⟩ = some (.int .i64 a0_2) := (blk_cell BK236.out 2).trans rfl
      have hcz34_3 : wr.cell? ⟨gb236, 3, none⟩ = some (.int .i64 a0_3) := (blk_cell BK236.out 3).trans rfl
      have hcz34_4 : wr.cell? ⟨gb236, 4, none⟩ = some (.string a0_4) := (blk_cell BK236.out 4).trans rfl
      have hcz34_5 : wr.cell? ⟨gb236, 5, none⟩ = some (.int .u16 a0_5) := (blk_cell BK236.out 5).trans rfl
      have hfz34_0 := blk_frozen BK236.out 0
      have hfz34_1 := blk_frozen BK236.out 1
      have hfz34_2 := blk_frozen BK236.out 2
      have hfz34_3 := blk_frozen BK236.out 3
      have hfz34_4 := blk_frozen BK236.out 4
      have hfz34_5 := blk_frozen BK236.out 5
      have hcz35_0 : wr.cell? ⟨gb237, 0, none⟩ = some (.int .u8 a1_0) := (blk_cell BK237.out 0).trans rfl
      have hcz35_1 : wr.cell? ⟨gb237, 1, none⟩ = some (.int .i64 a1_1) := (blk_cell BK237.out 1).trans rfl
      have hcz35_2 : wr.cell? ⟨gb237, 2, none⟩ = some (.int .i64 a1_2) := (blk_cell BK237.out 2).trans rfl
      have hcz35_3 : wr.cell? ⟨gb237, 3, none⟩ = some (.int .i64 a1_3) := (blk_cell BK237.out 3).trans rfl
      have hcz35_4 : wr.cell? ⟨gb237, 4, none⟩ = some (.string a1_4) := (blk_cell BK237.out 4).trans rfl
      have hcz35_5 : wr.cell? ⟨gb237, 5, none⟩ = some (.int .u16 a1_5) := (blk_cell BK237.out 5).trans rfl
      have hfz35_0 := blk_frozen BK237.out 0
      have hfz35_1 := blk_frozen BK237.out 1
      have hfz35_2 := blk_frozen BK237.out 2
      have hfz35_3 := blk_frozen BK237.out 3
      have hfz35_4 := blk_frozen BK237.out 4
      have hfz35_5 := blk_frozen BK237.out 5
      go_wp2
      repeat (go_quiet (fail); try go_wp2)
      go_roundg k2
      case measure => have := HJ2.out; have := HK2.out; omega
      case rel => exact ⟨(wrap64 (x5_2 + 1)), (by first | rfl | (simp; done) | (simp [*]; done)), H', ⟨by have := HJ2.out; have := HK2.out; omega⟩, ⟨by (with_reducible repeat (first | refine blk_drewN ?_ _ | refine blk_drew ?_ | refine blk_alloc ?_ _)); exact BK236.out⟩, ⟨by (with_reducible repeat (first | refine blk_drewN ?_ _ | refine blk_drew ?_ | refine blk_alloc ?_ _)); exact BK237.out⟩, ⟨by repeat (first | (with_reducible first | exact HB.out | apply below_alloc | apply pw_below_drewN | apply below_drew1 | refine below_set ?_ GE236.out | refine below_set ?_ GE237.out) | exact HB.out)⟩⟩
     rw [if_pos c20] at H
     have c20b0 : decide ((wrap64 ((wrap64 (a0_3 + x5_2)) - a1_3)) < (a1_4.size : Int)) = true := decide_eq_true c20
     clear c20
     by_cases c21 : 0 ≤ x5_2
     rotate_left
     ·rw [if_neg c21] at H
      exact absurd H (by simp)
     rw [if_pos c21] at H
     have c21b0 : decide (0 ≤ x5_2) = true := decide_eq_true c21
     clear c21
     obtain ⟨ji23, hji23⟩ : ∃ j_ : Int, (wrap64 ((wrap64 (a0_3 + x5_2)) - a1_3)) = j_ := ⟨_, rfl⟩
     replace H : (if 0 ≤ (ji23) then (if (bt a0_4 x5_2) = (bt a1_4 (ji23)) then (spec_alike.l0 k2 (wrap64 (x5_2 + 1)) a0_0 a0_1 a0_2 a0_3 a0_4 a0_5 a1_0 a1_1 a1_2 a1_3 a1_4 a1_5) else (some false)) else (none)) = some r := by first | (rw [hji23] at H; exact H) | (simp only [hji23] at H ⊢; exact H)
     (try rw [hji23] at c19b0)
     (try rw [hji23] at c20b0)
     have hji23w : (IntKind.i64.wrap ((wrap64 (a0_3 + x5_2)) - a1_3)) = ji23 := (i64_w _).trans hji23
     by_cases c24 : 0 ≤ (ji23)
     rotate_left
     ·rw [if_neg c24] at H
      exact absurd H (by simp)
     rw [if_pos c24] at H
     have c24b0 : decide (0 ≤ (ji23)) = true := decide_eq_true c24
     clear c24
     by_cases c26 : (bt a0_4 x5_2) = (bt a1_4 (ji23))
     rotate_left
     ·rw [if_neg c26] at H
      have c26b0 : ((bt a0_4 x5_2) == (bt a1_4 (ji23))) = false := beq_eq_false_iff_ne.mpr c26
      have c26b1 : ((bt a0_4 x5_2) != (bt a1_4 (ji23))) = true := bne_iff_ne.mpr c26
      obtain rfl := Option.some.inj H
      have hnb30 := NB236_237.out
      have hnc30 := NB237_236.out
      have hcz31_0 : wr.cell? ⟨gb236, 0, none⟩ = some (.int .u8 a0_0) := (blk_cell BK236.out 0).trans rfl
      have hcz31_1 : wr.cell? ⟨gb236, 1, none⟩ = some (.int .i64 a0_1) := (blk_cell BK236.out 1).trans rfl
      have hcz31_2 : wr.cell? ⟨gb236, 2, none⟩ = some (.int .i64 a0_2) := (blk_cell BK236.out 2).trans rfl
      have hcz31_3 : wr.cell? ⟨gb236, 3, none⟩ = some (.int .i64 a0_3) := (blk_cell BK236.out 3).trans rfl
      have hcz31_4 : wr.cell? ⟨gb236, 4, none⟩ = some (.string a0_4) := (blk_cell BK236.out 4).trans rfl
      have hcz31_5 : wr.cell? ⟨gb236, 5, none⟩ = some (.int .u16 a0_5) := (blk_cell BK236.out 5).trans rfl
      have hfz31_0 := blk_frozen BK236.out 0
      have hfz31_1 := blk_frozen BK236.out 1
      have hfz31_2 := blk_frozen BK236.out 2
      have hfz31_3 := blk_frozen BK236.out 3
      have hfz31_4 := blk_frozen BK236.out 4
      have hfz31_5 := blk_frozen BK236.out 5
      have hcz32_0 : wr.cell? ⟨gb237, 0, none⟩ = some (.int .u8 a1_0) := (blk_cell BK237.out 0).trans rfl
      have hcz32_1 : wr.cell? ⟨gb237, 1, none⟩ = some (.int .i64 a1_1) := (blk_cell BK237.out 1).trans rfl
      have hcz32_2 : wr.cell? ⟨gb237, 2, none⟩ = some (.int .i64 a1_2) := (blk_cell BK237.out 2).trans rfl
      have hcz32_3 : wr.cell? ⟨gb237, 3, none⟩ = some (.int .i64 a1_3) := (blk_cell BK237.out 3).trans rfl
      have hcz32_4 : wr.cell? ⟨gb237, 4, none⟩ = some (.string a1_4) := (blk_cell BK237.out 4).trans rfl
      have hcz32_5 : wr.cell? ⟨gb237, 5, none⟩ = some (.int .u16 a1_5) := (blk_cell BK237.out 5).trans rfl
      have hfz32_0 := blk_frozen BK237.out 0
      have hfz32_1 := blk_frozen BK237.out 1
      have hfz32_2 := blk_frozen BK237.out 2
      have hfz32_3 := blk_frozen BK237.out 3
      have hfz32_4 := blk_frozen BK237.out 4
      have hfz32_5 := blk_frozen BK237.out 5
      have p22 : 0 ≤ (x5_2 : Int) := of_decide_eq_true (by first | (with_reducible assumption) | assumption)
      have q22 : x5_2 < (a0_4.size : Int) := of_decide_eq_true (by first | (with_reducible assumption) | assumption)
      have hx22 := bt_at a0_4 x5_2
      replace p22 := eq_true p22
      replace q22 := eq_true q22
      have p25 : 0 ≤ ((ji23) : Int) := of_decide_eq_true (by first | (with_reducible assumption) | assumption)
      have q25 : (ji23) < (a1_4.size : Int) := of_decide_eq_true (by first | (with_reducible assumption) | assumption)
      have hx25 := bt_at a1_4 (ji23)
      replace p25 := eq_true p25
      replace q25 := eq_true q25
      go_wp2
      repeat (go_quiet (fail); try go_wp2)
      go_ret
      exact ⟨by first | rfl | (simp [errW_none, errW_some] <;> rfl) | (simp only [← hji23]; first | rfl | (simp [errW_none, errW_some] <;> rfl)) | (simp [*, errW_none, errW_some] <;> rfl), by repeat (first | (with_reducible first | exact HB.out | apply below_alloc | apply pw_below_drewN | apply below_drew1 | refine below_set ?_ GE236.out | refine below_set ?_ GE237.out) | exact HB.out)⟩
     rw [if_pos c26] at H
     have c26b0 : ((bt a0_4 x5_2) == (bt a1_4 (ji23))) = true := beq_iff_eq.mpr c26
     have c26b1 : ((bt a0_4 x5_2) != (bt a1_4 (ji23))) = false := bne_eq_false_iff_eq.mpr c26
     clear c26
     have H' := Aside0.mk H
     clear H
     have hnb27 := NB236_237.out
     have hnc27 := NB237_236.out
     have hcz28_0 : wr.cell? ⟨gb236, 0, none⟩ = some (.int .u8 a0_0) := (blk_cell BK236.out 0).trans rfl
     have hcz28_1 : wr.cell? ⟨gb236, 1, none⟩ = some (.int .i64 a0_1) := (blk_cell BK236.out 1).trans rfl
     have hcz28_2 : wr.cell? ⟨gb236, 2, none⟩ = some (.int .i64 a0_2) := (blk_cell BK236.out 2).trans rfl
     have hcz28_3 : wr.cell? ⟨gb236, 3, none⟩ = some (.int .i64 a0_3) := (blk_cell BK236.out 3).trans rfl
     have hcz28_4 : wr.cell? ⟨gb236, 4, none⟩ = some (.string a0_4) := (blk_cell BK236.out 4).trans rfl
     have hcz28_5 : wr.cell? ⟨gb236, 5, none⟩ = some (.int .u16 a0_5) := (blk_cell BK236.out 5).trans rfl
     have hfz28_0 := blk_frozen BK236.out 0
     have hfz28_1 := blk_frozen BK236.out 1
     have hfz28_2 := blk_frozen BK236.out 2
     have hfz28_3 := blk_frozen BK236.out 3
     have hfz28_4 := blk_frozen BK236.out 4
     have hfz28_5 := blk_frozen BK236.out 5
     have hcz29_0 : wr.cell? ⟨gb237, 0, none⟩ = some (.int .u8 a1_0) := (blk_cell BK237.out 0).trans rfl
     have hcz29_1 : wr.cell? ⟨gb237, 1, none⟩ = some (.int .i64 a1_1) := (blk_cell BK237.out 1).trans rfl
     have hcz29_2 : wr.cell? ⟨gb237, 2, none⟩ = some (.int .i64 a1_2) := (blk_cell BK237.out 2).trans rfl
     have hcz29_3 : wr.cell? ⟨gb237, 3, none⟩ = some (.int .i64 a1_3) := (blk_cell BK237.out 3).trans rfl
     have hcz29_4 : wr.cell? ⟨gb237, 4, none⟩ = some (.string a1_4) := (blk_cell BK237.out 4).trans rfl
     have hcz29_5 : wr.cell? ⟨gb237, 5, none⟩ = some (.int .u16 a1_5) := (blk_cell BK237.out 5).trans rfl
     have hfz29_0 := blk_frozen BK237.out 0
     have hfz29_1 := blk_frozen BK237.out 1
     have hfz29_2 := blk_frozen BK237.out 2
     have hfz29_3 := blk_frozen BK237.out 3
     have hfz29_4 := blk_frozen BK237.out 4
     have hfz29_5 := blk_frozen BK237.out 5
     have p22 : 0 ≤ (x5_2 : Int) := of_decide_eq_true (by first | (with_reducible assumption) | assumption)
     have q22 : x5_2 < (a0_4.size : Int) := of_decide_eq_true (by first | (with_reducible assumption) | assumption)
     have hx22 := bt_at a0_4 x5_2
     replace p22 := eq_true p22
     replace q22 := eq_true q22
     have p25 : 0 ≤ ((ji23) : Int) := of_decide_eq_true (by first | (with_reducible assumption) | assumption)
     have q25 : (ji23) < (a1_4.size : Int) := of_decide_eq_true (by first | (with_reducible assumption) | assumption)
     have hx25 := bt_at a1_4 (ji23)
     replace p25 := eq_true p25
     replace q25 := eq_true q25
     go_wp2
     repeat (go_quiet (fail); try go_wp2)
     go_roundg k2
     case measure => have := HJ2.out; have := HK2.out; omega
     case rel => exact ⟨(wrap64 (x5_2 + 1)), (by first | rfl | (simp; done) | (simp [*]; done)), H', ⟨by have := HJ2.out; have := HK2.out; omega⟩, ⟨by (with_reducible repeat (first | refine blk_drewN ?_ _ | refine blk_drew ?_ | refine blk_alloc ?_ _)); exact BK236.out⟩, ⟨by (with_reducible repeat (first | refine blk_drewN ?_ _ | refine blk_drew ?_ | refine blk_alloc ?_ _)); exact BK237.out⟩, ⟨by repeat (first | (with_reducible first | exact HB.out | apply below_alloc | apply pw_below_drewN | apply below_drew1 | refine below_set ?_ GE236.out | refine below_set ?_ GE237.out) | exact HB.out)⟩⟩


end Go.Proofs.YtblmbbllfiigmaaDoor.PAll
