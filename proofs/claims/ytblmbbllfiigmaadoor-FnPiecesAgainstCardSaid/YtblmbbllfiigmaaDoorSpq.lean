/-
  The reference's buffer of pieces, walked: pop, where nothing is whole.
-/
import Derived.Test.YtblmbbllfiigmaaDoorSpp
namespace Go.Proofs.YtblmbbllfiigmaaDoor
open Go.RowKit Go.Proofs.YtblmbbllfiigmaaDoorW.PrintWords Go.Proofs.YtblmbbllfiigmaaDoorW.PrintLast Go.Proofs.YtblmbbllfiigmaaDoorW.PrintMore PAll

set_option linter.unusedSimpArgs false in
set_option linter.unusedVariables false in
set_option maxRecDepth 100000 in
set_option maxHeartbeats 4000000 in
theorem spop_none (base G : Nat) (v : Value) (l : List S68) (nx : Int) (w : World) (hs : SpB w base G v l nx) (hn : l.length ≤ 1000000) (hsm : SmallS l) (hno : ∀ p, startS nx l = some p → covIter nx l l.length < p.f1) :
    Calls Tryd.prog 29 #[.pointer (some ⟨G, 0, none⟩)] w fun e w' => e = .returned (.agg #[.bool false, .bool false, .bool false, .bool false, .string ⟨#[]⟩, .int .u16 0, .int .i64 0]) ∧ Below w.heap.size w w' := by
  have HS := Aside0.mk hs
  have HN := Aside0.mk hn
  have HSM := Aside0.mk hsm
  have HNO := Aside0.mk hno
  clear hs hn hsm hno
  go_enter Tryd.func29, Tryd.ntmps29
  go_upto_region 1 with fail
  have HB1 : Aside0 (Below w.heap.size w (w.alloc (.cells #[.bool false, .bool false, .bool false, .bool false, .string ⟨#[]⟩, .int .u16 0, .int .i64 0] 43))) := ⟨below_alloc (Below.refl _ w) _⟩
  have HT1 : Aside0 ((w.alloc (.cells #[.bool false, .bool false, .bool false, .bool false, .string ⟨#[]⟩, .int .u16 0, .int .i64 0] 43)).heap[w.heap.size]? = some (.cells #[.bool false, .bool false, .bool false, .bool false, .string ⟨#[]⟩, .int .u16 0, .int .i64 0] 43)) := ⟨blk_new w _⟩
  have HS1 := Aside0.mk (HS.out.below HB1.out)
  clear HS
  generalize w.alloc (.cells #[.bool false, .bool false, .bool false, .bool false, .string ⟨#[]⟩, .int .u16 0, .int .i64 0] 43) = W1 at *
  have g1 : W1.cell? ⟨G, 1, none⟩ = some (.int .i64 nx) := cellB HS1.out.blk 1
  go_wp2_with fail
  refine (start_any base G v l nx nx W1 HS1.out HN.out).mono ?_
  rintro e W2 ⟨p, rfl, hp, hb⟩
  have HB2 := Aside0.mk (below_then HB1.out HB1.out.size hb)
  have HT2 := Aside0.mk ((hb.block w.heap.size (ltB HT1.out)).trans HT1.out)
  have HS2 := Aside0.mk (HS1.out.below hb)
  have HP := Aside0.mk hp
  clear hb hp HB1 HT1 HS1 g1
  go_upto_region 2 with fail
  have hb : Below W2.heap.size W2 (W2.alloc (.cells #[.int .u8 p.f0, .int .i64 p.f1, .int .i64 p.f2, .int .i64 p.f3, .string p.f4, .int .u16 p.f5] 68)) := below_alloc (Below.refl _ W2) _
  have HB3 := Aside0.mk (below_then HB2.out HB2.out.size hb)
  have HT3 := Aside0.mk ((hb.block w.heap.size (ltB HT2.out)).trans HT2.out)
  have HS3 := Aside0.mk (HS2.out.below hb)
  have HU3 := Aside0.mk (blk_new W2 (.cells #[.int .u8 p.f0, .int .i64 p.f1, .int .i64 p.f2, .int .i64 p.f3, .string p.f4, .int .u16 p.f5] 68))
  have HTU : Aside0 (w.heap.size < W2.heap.size) := ⟨ltB HT2.out⟩
  clear hb HB2 HT2 HS2
  generalize W2.alloc (.cells #[.int .u8 p.f0, .int .i64 p.f1, .int .i64 p.f2, .int .i64 p.f3, .string p.f4, .int .u16 p.f5] 68) = W3 at *
  generalize W2.heap.size = TU at *
  have g1 : W3.cell? ⟨G, 1, none⟩ = some (.int .i64 nx) := cellB HS3.out.blk 1
  have u1 : W3.cell? ⟨TU, 1, none⟩ = some (.int .i64 p.f1) := (blk_cell HU3.out 1).trans rfl
  obtain ⟨ok, hok⟩ : ∃ ok, ok = (startS nx l).isSome := ⟨_, rfl⟩
  rw [← hok]
  have HOK := Aside0.mk hok
  clear hok
  go_cut [30] (fun g wx => g = .bool true ∧ Below W3.heap.size W3 wx)
  case first =>
    cases ok with
    | false =>
      refine wp_region_quiet_below (by kernel_rfl) (by kernel_rfl) ?_
      repeat (go_big_quiet_step (fail))
      refine wpQuiet_nil ?_
      intro _ hw'
      obtain ⟨⟨dr, osr⟩, hw''⟩ := hw'
      subst hw''
      have HBQ := Aside0.mk (below_regrown W3 dr osr)
      go_wp2_with fail
      go_meet
      exact ⟨rfl, HBQ.out⟩
    | true =>
      have hst : startS nx l = some p := by
        have h := HOK.out
        cases hx : startS nx l with
        | none => rw [hx] at h; cases h
        | some x => rw [HP.out x hx]
      have hlt := HNO.out p hst
      have hd : decide (covIter nx l l.length < p.f1) = true := decide_eq_true hlt
      have cA := fun d os => Calls.regrown_of (covered_any base G v l nx nx (Sort.grow (redrawn W3 d) os) (HS3.out.below (below_regrown W3 d os)) HN.out HSM.out)
      have g1' := cell_regrown g1
      have u1' := cell_regrown u1
      clear g1 u1 hst hlt
      refine wp_region_quiet_below (by kernel_rfl) (by kernel_rfl) ?_
      repeat (go_big_quiet_step (exact cA _ _))
      refine wpQuiet_nil ?_
      intro _ hw'
      obtain ⟨⟨dr, osr⟩, hw''⟩ := hw'
      subst hw''
      have HBQ := Aside0.mk (below_regrown W3 dr osr)
      go_wp2_with fail
      go_meet
      exact ⟨rfl, HBQ.out⟩
  case rest =>
    obtain ⟨hg, hbx⟩ := hcut
    rw [hg]
    have HT := Aside0.mk ((hbx.block w.heap.size (ltB HT3.out)).trans HT3.out)
    have HB := Aside0.mk (below_then HB3.out HB3.out.size hbx)
    clear hg hbx HT3 HB3 HS3 HU3 HTU g1 u1 HP HOK
    have t0 : wc.cell? ⟨w.heap.size, 0, none⟩ = some (.bool false) := (blk_cell HT.out 0).trans rfl
    have t1 : wc.cell? ⟨w.heap.size, 1, none⟩ = some (.bool false) := (blk_cell HT.out 1).trans rfl
    have t2 : wc.cell? ⟨w.heap.size, 2, none⟩ = some (.bool false) := (blk_cell HT.out 2).trans rfl
    have t3 : wc.cell? ⟨w.heap.size, 3, none⟩ = some (.bool false) := (blk_cell HT.out 3).trans rfl
    have t4 : wc.cell? ⟨w.heap.size, 4, none⟩ = some (.string ⟨#[]⟩) := (blk_cell HT.out 4).trans rfl
    have t5 : wc.cell? ⟨w.heap.size, 5, none⟩ = some (.int .u16 0) := (blk_cell HT.out 5).trans rfl
    have t6 : wc.cell? ⟨w.heap.size, 6, none⟩ = some (.int .i64 0) := (blk_cell HT.out 6).trans rfl
    have tf := fun j => blk_frozen HT.out j
    have HC : Aside0 ((((((((wc.setCell ⟨w.heap.size, 0, none⟩ (.bool false)).setCell ⟨w.heap.size, 1, none⟩ (.bool false)).setCell ⟨w.heap.size, 2, none⟩ (.bool false)).setCell ⟨w.heap.size, 3, none⟩ (.bool false)).setCell ⟨w.heap.size, 4, none⟩ (.string ⟨#[]⟩)).setCell ⟨w.heap.size, 5, none⟩ (.int .u16 0)).setCell ⟨w.heap.size, 6, none⟩ (.int .i64 0)).heap[w.heap.size]? = some (.cells #[.bool false, .bool false, .bool false, .bool false, .string ⟨#[]⟩, .int .u16 0, .int .i64 0] 43)) := ⟨by
      have h := (blk_set (blk_set (blk_set (blk_set (blk_set (blk_set (blk_set HT.out 0 (.bool false)) 1 (.bool false)) 2 (.bool false)) 3 (.bool false)) 4 (.string ⟨#[]⟩)) 5 (.int .u16 0)) 6 (.int .i64 0))
      simpa using h⟩
    have HBF : Aside0 (Below w.heap.size w (((((((wc.setCell ⟨w.heap.size, 0, none⟩ (.bool false)).setCell ⟨w.heap.size, 1, none⟩ (.bool false)).setCell ⟨w.heap.size, 2, none⟩ (.bool false)).setCell ⟨w.heap.size, 3, none⟩ (.bool false)).setCell ⟨w.heap.size, 4, none⟩ (.string ⟨#[]⟩)).setCell ⟨w.heap.size, 5, none⟩ (.int .u16 0)).setCell ⟨w.heap.size, 6, none⟩ (.int .i64 0))) := ⟨below_set (below_set (below_set (below_set (below_set (below_set (below_set HB.out (Nat.le_refl _)) (Nat.le_refl _)) (Nat.le_refl _)) (Nat.le_refl _)) (Nat.le_refl _)) (Nat.le_refl _)) (Nat.le_refl _)⟩
    go_wp2_with fail
    refine bodyPost_ret (results_cell_row rfl _ _ w.heap.size 43 _ _ _ rfl HC.out Tryd.underlying43 rfl (by kernel_rfl)) rfl ?_
    exact ⟨rfl, HBF.out⟩

end Go.Proofs.YtblmbbllfiigmaaDoor
