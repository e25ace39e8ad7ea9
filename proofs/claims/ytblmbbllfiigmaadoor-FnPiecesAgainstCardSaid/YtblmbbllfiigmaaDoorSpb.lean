/-
  The reference's buffer of pieces, walked: start.
-/
import Derived.Test.YtblmbbllfiigmaaDoorPAllb0
import Derived.Test.YtblmbbllfiigmaaDoorMtri
import Derived.Laws.ResultCell
import Derived.Laws.Rows
namespace Go.Proofs.YtblmbbllfiigmaaDoor
open Go.RowKit Go.Proofs.YtblmbbllfiigmaaDoorW.PrintWords Go.Proofs.YtblmbbllfiigmaaDoorW.PrintLast Go.Proofs.YtblmbbllfiigmaaDoorW.PrintMore PAll

/-- The reference's buffer in memory. -/
structure SpB (w : World) (base G : Nat) (v : Value) (l : List S68) (nx : Int) : Prop where
  blk : w.heap[G]? = some (.cells [v, .int .i64 nx].toArray 72)
  row : Kd.R k68 68 w base (fun _ => True) v l
theorem SpB.below {w w' : World} {base G : Nat} {v : Value} {l : List S68} {nx : Int} (h : SpB w base G v l nx) (hb : Below w.heap.size w w') : SpB w' base G v l nx :=
  ⟨(hb.block G (ltB h.blk)).trans h.blk, Kd.R_below h.row hb⟩

/-- The first piece of a message that stands at its beginning. -/
def startS (q : Int) : List S68 → Option S68
  | [] => none
  | p :: l => if p.f2 = q ∧ p.f3 = 0 then some p else startS q l
theorem startS_app (q : Int) (l : List S68) (p : S68) (h : startS q l = none) : startS q (l ++ [p]) = if p.f2 = q ∧ p.f3 = 0 then some p else none := by
  induction l with
  | nil => rfl
  | cons x l ih =>
    rw [List.cons_append, startS]
    rw [startS] at h
    split at h
    · cases h
    · rename_i hx
      rw [if_neg hx]
      exact ih h
theorem startS_more (q : Int) (l r : List S68) (p : S68) (h : startS q l = some p) : startS q (l ++ r) = some p := by
  induction l with
  | nil => cases h
  | cons x l ih =>
    rw [List.cons_append, startS]
    rw [startS] at h
    split at h
    · rename_i hx
      rw [if_pos hx, h]
    · rename_i hx
      rw [if_neg hx]
      exact ih h

theorem cell_tmp_row {P : Program} {fn : Func} {p u : Tmp} {ty : TypeId} (h : fn.results = #[.cell p ty, .tmp u]) (tmps : Array Value) (w : World) (g : Nat) (t : TypeId) (cs : Array Value) (fr : Nat × Nat) (d : TypeDesc) (x : Value)
    (hp : tmps.getD p undef = .pointer (some ⟨g, 0, none⟩)) (hg : w.heap[g]? = some (.cells cs t fr))
    (hu : P.underlying ty = some d) (hd : (match d with | .struct _ | .array _ _ => true | _ => false) = true) (hi : (P.info? ty).map (·.size) = some cs.size) (hx : tmps.getD u undef = x) :
    (results fn tmps).run P w = .ok (.tuple #[.agg cs, x]) w := by
  rw [results_cell_tmp h, hp, hx]
  simp [asAddr, run_loadVar_row w g t ty cs fr d hg hu hd hi, Result.andThen]

set_option maxRecDepth 100000 in
set_option maxHeartbeats 4000000 in
theorem start_any (base G : Nat) (v : Value) (l : List S68) (nx q : Int) (w : World) (hs : SpB w base G v l nx) (hn : l.length ≤ 1000000) :
    Calls Tryd.prog 36 #[.pointer (some ⟨G, 0, none⟩), .int .i64 q] w fun e w' => ∃ p : S68, e = .returned (.tuple #[.agg #[.int .u8 p.f0, .int .i64 p.f1, .int .i64 p.f2, .int .i64 p.f3, .string p.f4, .int .u16 p.f5], .bool (startS q l).isSome]) ∧ (∀ x, startS q l = some x → p = x) ∧ Below w.heap.size w w' := by
  have HS := Aside0.mk hs
  have HN := Aside0.mk hn
  clear hs hn
  go_enter Tryd.func36, Tryd.ntmps36
  go_upto_region 2 with fail
  obtain ⟨A, c, hv⟩ := Kd.R_slice HS.out.row
  subst hv
  have HB : Aside0 (Below w.heap.size w (w.alloc (.cells #[.int .u8 0, .int .i64 0, .int .i64 0, .int .i64 0, .string ⟨#[]⟩, .int .u16 0] 68))) := ⟨below_alloc (Below.refl _ w) _⟩
  have HR : Aside0 ((w.alloc (.cells #[.int .u8 0, .int .i64 0, .int .i64 0, .int .i64 0, .string ⟨#[]⟩, .int .u16 0] 68)).heap[w.heap.size]? = some (.cells #[.int .u8 0, .int .i64 0, .int .i64 0, .int .i64 0, .string ⟨#[]⟩, .int .u16 0] 68)) := ⟨blk_new w _⟩
  have HS1 := Aside0.mk (HS.out.below HB.out)
  clear HS
  generalize w.alloc (.cells #[.int .u8 0, .int .i64 0, .int .i64 0, .int .i64 0, .string ⟨#[]⟩, .int .u16 0] 68) = W1 at *
  go_loopw [6] (fun v6 wr => ∃ (j : Nat), v6 = .int .i64 j ∧ j ≤ l.length ∧ Aside0 (startS q (l.take j) = none) ∧ Aside0 (SpB wr base G (.slice A l.length c) l nx) ∧ Aside0 (wr.heap[w.heap.size]? = some (.cells #[.int .u8 0, .int .i64 0, .int .i64 0, .int .i64 0, .string ⟨#[]⟩, .int .u16 0] 68)) ∧ Aside0 (Below w.heap.size w wr)) (fun v6 _ => l.length - (intOf v6).toNat)
  case atStart => exact ⟨0, rfl, Nat.zero_le _, ⟨rfl⟩, HS1, HR, HB⟩
  case round =>
    clear HS1 HR HB
    obtain ⟨j, rfl, hj, HST, HS, HR, HB⟩ := hrel
    have c0 : wr.cell? ⟨G, 0, none⟩ = some (.slice A l.length c) := cellB HS.out.blk 0
    have r0 : wr.cell? ⟨w.heap.size, 0, none⟩ = some (.int .u8 0) := (blk_cell HR.out 0).trans rfl
    have r1 : wr.cell? ⟨w.heap.size, 1, none⟩ = some (.int .i64 0) := (blk_cell HR.out 1).trans rfl
    have r2 : wr.cell? ⟨w.heap.size, 2, none⟩ = some (.int .i64 0) := (blk_cell HR.out 2).trans rfl
    have r3 : wr.cell? ⟨w.heap.size, 3, none⟩ = some (.int .i64 0) := (blk_cell HR.out 3).trans rfl
    have r4 : wr.cell? ⟨w.heap.size, 4, none⟩ = some (.string ⟨#[]⟩) := (blk_cell HR.out 4).trans rfl
    have r5 : wr.cell? ⟨w.heap.size, 5, none⟩ = some (.int .u16 0) := (blk_cell HR.out 5).trans rfl
    have rf := fun j => blk_frozen HR.out j
    by_cases hlt : j < l.length
    · have p1 : (0 : Int) ≤ (j : Int) := by omega
      have p2 : (j : Int) < (l.length : Int) := by omega
      have HJ := Aside0.mk hlt
      obtain ⟨ad, hA, x0, x1, x2, x3, x4, x5⟩ := at_T68 (Kd.R_reads' HS.out.row).2.2 (j : Int) p1 p2
      subst hA
      obtain ⟨x, hx⟩ : ∃ x, rd_T68 l (j : Int) = x := ⟨_, rfl⟩
      rw [hx] at x0 x1 x2 x3 x4 x5
      rw [Int.toNat_natCast] at x0 x1 x2 x3 x4 x5
      have hxl : l[j]? = some x := by
        rw [← hx, rd_T68, Int.toNat_natCast, List.getD_eq_getElem?_getD, List.getElem?_eq_getElem hlt]
        rfl
      have hsnoc := startS_app q (l.take j) x HST.out
      rw [← take_get l j x hxl] at hsnoc
      have HSN := Aside0.mk hsnoc
      have hall : ∀ y, startS q (l.take (j + 1)) = some y → startS q l = some y := fun y hy => by
        have := startS_more q (l.take (j + 1)) (l.drop (j + 1)) y hy
        rwa [List.take_append_drop] at this
      have HALL := Aside0.mk hall
      have HW : Aside0 (wrap64 ((j : Int) + 1) = ((j + 1 : Nat) : Int)) := ⟨by have := HN.out; unfold wrap64; omega⟩
      clear hx hxl hsnoc hall hj hlt
      cases h2 : (x.f2 == q) with
      | true =>
        cases h3 : (x.f3 == (0 : Int)) with
        | true =>
          have H23 : Aside0 (x.f2 = q ∧ x.f3 = 0) := ⟨⟨by simpa using h2, by simpa using h3⟩⟩
          have HC : Aside0 (((((((wr.setCell ⟨w.heap.size, 0, none⟩ (.int .u8 x.f0)).setCell ⟨w.heap.size, 1, none⟩ (.int .i64 x.f1)).setCell ⟨w.heap.size, 2, none⟩ (.int .i64 x.f2)).setCell ⟨w.heap.size, 3, none⟩ (.int .i64 x.f3)).setCell ⟨w.heap.size, 4, none⟩ (.string x.f4)).setCell ⟨w.heap.size, 5, none⟩ (.int .u16 x.f5)).heap[w.heap.size]? = some (.cells #[.int .u8 x.f0, .int .i64 x.f1, .int .i64 x.f2, .int .i64 x.f3, .string x.f4, .int .u16 x.f5] 68)) := ⟨by
            have h := (blk_set (blk_set (blk_set (blk_set (blk_set (blk_set HR.out 0 (.int .u8 x.f0)) 1 (.int .i64 x.f1)) 2 (.int .i64 x.f2)) 3 (.int .i64 x.f3)) 4 (.string x.f4)) 5 (.int .u16 x.f5))
            simpa using h⟩
          have HBC : Aside0 (Below w.heap.size w ((((((wr.setCell ⟨w.heap.size, 0, none⟩ (.int .u8 x.f0)).setCell ⟨w.heap.size, 1, none⟩ (.int .i64 x.f1)).setCell ⟨w.heap.size, 2, none⟩ (.int .i64 x.f2)).setCell ⟨w.heap.size, 3, none⟩ (.int .i64 x.f3)).setCell ⟨w.heap.size, 4, none⟩ (.string x.f4)).setCell ⟨w.heap.size, 5, none⟩ (.int .u16 x.f5))) := ⟨(below_set (below_set (below_set (below_set (below_set (below_set HB.out (Nat.le_refl _)) (Nat.le_refl _)) (Nat.le_refl _)) (Nat.le_refl _)) (Nat.le_refl _)) (Nat.le_refl _))⟩
          go_wp2_with fail
          refine bodyPost_ret (cell_tmp_row rfl _ _ w.heap.size 68 _ _ _ _ rfl HC.out Tryd.underlying68 rfl (by kernel_rfl) rfl) rfl ?_
          have hst : startS q l = some x := HALL.out x (by rw [HSN.out, if_pos H23.out])
          exact ⟨x, by rw [hst]; rfl, fun y hy => by rw [hst] at hy; exact (Option.some.inj hy), HBC.out⟩
        | false =>
          have H23 : Aside0 (¬ (x.f2 = q ∧ x.f3 = 0)) := ⟨fun h => by rw [h.2] at h3; simp at h3⟩
          go_wp2_with fail
          go_roundw
          case rel => exact ⟨j + 1, by rw [HW.out], HJ.out, ⟨by rw [HSN.out, if_neg H23.out]⟩, HS, HR, HB⟩
          case measure => exact meas _ _ _ HJ.out HW.out
      | false =>
        have H23 : Aside0 (¬ (x.f2 = q ∧ x.f3 = 0)) := ⟨fun h => by rw [h.1] at h2; simp at h2⟩
        go_wp2_with fail
        go_roundw
        case rel => exact ⟨j + 1, by rw [HW.out], HJ.out, ⟨by rw [HSN.out, if_neg H23.out]⟩, HS, HR, HB⟩
        case measure => exact meas _ _ _ HJ.out HW.out
    · have hjl : j = l.length := by omega
      have hnone : startS q l = none := by have := HST.out; rwa [hjl, List.take_length] at this
      have p2 : ¬ (j : Int) < (l.length : Int) := by omega
      have HNO := Aside0.mk hnone
      clear hj hlt hjl hnone
      have HC : Aside0 (((((((wr.setCell ⟨w.heap.size, 0, none⟩ (.int .u8 0)).setCell ⟨w.heap.size, 1, none⟩ (.int .i64 0)).setCell ⟨w.heap.size, 2, none⟩ (.int .i64 0)).setCell ⟨w.heap.size, 3, none⟩ (.int .i64 0)).setCell ⟨w.heap.size, 4, none⟩ (.string ⟨#[]⟩)).setCell ⟨w.heap.size, 5, none⟩ (.int .u16 0)).heap[w.heap.size]? = some (.cells #[.int .u8 0, .int .i64 0, .int .i64 0, .int .i64 0, .string ⟨#[]⟩, .int .u16 0] 68)) := ⟨by
        have h := (blk_set (blk_set (blk_set (blk_set (blk_set (blk_set HR.out 0 (.int .u8 0)) 1 (.int .i64 0)) 2 (.int .i64 0)) 3 (.int .i64 0)) 4 (.string ⟨#[]⟩)) 5 (.int .u16 0))
        simpa using h⟩
      have HBC : Aside0 (Below w.heap.size w ((((((wr.setCell ⟨w.heap.size, 0, none⟩ (.int .u8 0)).setCell ⟨w.heap.size, 1, none⟩ (.int .i64 0)).setCell ⟨w.heap.size, 2, none⟩ (.int .i64 0)).setCell ⟨w.heap.size, 3, none⟩ (.int .i64 0)).setCell ⟨w.heap.size, 4, none⟩ (.string ⟨#[]⟩)).setCell ⟨w.heap.size, 5, none⟩ (.int .u16 0))) := ⟨(below_set (below_set (below_set (below_set (below_set (below_set HB.out (Nat.le_refl _)) (Nat.le_refl _)) (Nat.le_refl _)) (Nat.le_refl _)) (Nat.le_refl _)) (Nat.le_refl _))⟩
      go_wp2_with fail
      refine bodyPost_ret (cell_tmp_row rfl _ _ w.heap.size 68 _ _ _ _ rfl HC.out Tryd.underlying68 rfl (by kernel_rfl) rfl) rfl ?_
      exact ⟨⟨0, 0, 0, 0, ⟨#[]⟩, 0⟩, by rw [HNO.out]; rfl, (fun y hy => by rw [HNO.out] at hy; cases hy), HBC.out⟩

end Go.Proofs.YtblmbbllfiigmaaDoor
