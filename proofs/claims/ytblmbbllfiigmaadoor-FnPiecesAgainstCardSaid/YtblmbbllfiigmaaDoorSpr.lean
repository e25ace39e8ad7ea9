/-
  The reference's buffer of pieces, walked: pop, where a message is whole.
-/
import Derived.Test.YtblmbbllfiigmaaDoorSpq
import Derived.Test.YtblmbbllfiigmaaDoorPAllb4
import Derived.Lib.BufferWrite
import Derived.Deep.RegionLaw
namespace Go.Proofs.YtblmbbllfiigmaaDoor
open Go.RowKit Go.Proofs.YtblmbbllfiigmaaDoorW.PrintWords Go.Proofs.YtblmbbllfiigmaaDoorW.PrintLast Go.Proofs.YtblmbbllfiigmaaDoorW.PrintMore PAll

theorem bytes_cells (s : ByteArray) : Lib.byteCells s.data.toList = (bytesOf s).map (Value.int .u8) := by
  simp [Lib.byteCells, bytesOf]
theorem step_copy_str {P : Program} {ops : Array Oper} {o : Oper} {a : Act} {w : World} {K : Act → World → Prop} {Q : Exit → Act → World → Prop} {E : Prop}
    (hgd : o.guard = none) (d x : Operand) (dT sT : TypeId) (hop : o.op = Op.call { callee := Callee.builtin Builtin.copy, args := #[d, x], argTypes := #[dT, sT] })
    (elem : TypeId) (hu : P.underlying dT = some (.slice elem)) (hs : (P.info? elem).map (·.size) = some 1)
    (dp : Option Addr) (dLen dCap : Nat) (hd : a.eval d = .slice dp dLen dCap) (s : ByteArray) (hx : a.eval x = .string s)
    (g off : Nat) (cur : List Value) (t : TypeId) (hg : w.heap[g]? = some (.cells cur.toArray t (0, 0))) (hle : s.size ≤ dLen) (hpos : 0 < s.size → dp = some ⟨g, off, none⟩) (hfit : off + s.size ≤ cur.length)
    (h : ∀ w', Hid (w'.heap[g]? = some (.cells (splice cur off ((bytesOf s).map (Value.int .u8))).toArray t (0, 0))) → Hid (w.grownBy w' (some g)) → K (a.put o.dst (goInt s.size)) w') :
    if Region.wanted o (yielded ops a.tmps) = true then Oper.wp P o a w K Q else E := by
  have hw : Region.wanted o (yielded ops a.tmps) = true := by simp [Region.wanted, hgd]
  rw [if_pos hw]
  by_cases h0 : s.size = 0
  · have hrun := Lib.run_copy_empty_string (P := P) w dT sT o.type elem dp dLen dCap s hu (by cases hq : P.info? elem with
      | none => rw [hq] at hs; cases hs
      | some i => rfl) h0
    have hb : bytesOf s = [] := by
      have : (bytesOf s).length = 0 := by rw [← h0]; simp [bytesOf]
      exact List.eq_nil_of_length_eq_zero this
    unfold Oper.wp
    simp [execOp, hop, resolve, invoke, builtin, hd, hx, hrun, Result.andThen]
    rw [h0] at h
    exact h w (show _ = _ by rw [hb]; simpa [splice] using hg) (show _ from World.grownBy.refl w _)
  · obtain rfl := hpos (by omega)
    have hrun := Lib.run_copy_row_string (P := P) w dT sT o.type elem g off dLen dCap s cur.toArray t hu hs hg hle (by simpa using hfit)
    rw [bytes_cells] at hrun
    unfold Oper.wp
    simp [execOp, hop, resolve, invoke, builtin, hd, hx, hrun, Result.andThen]
    have hl : ((bytesOf s).map (Value.int .u8)).length = s.size := by simp [bytesOf]
    refine h _ (show _ = _ by simpa [splice, hl] using setRow_heap w g _ _ t _ hg) (show _ from ⟨rfl, rfl, rfl, by simp [World.setRow], fun k _ hk => setRow_other w g k _ (fun e => hk (by rw [e]))⟩)

theorem mkn (w : World) (n : Nat) (hn : n ≤ 1000000) : (Instr.makeSlice 59 (.int .i64 (n : Int)) (.int .i64 (n : Int))).run Tryd.prog w = .ok (.slice (some ⟨w.heap.size, 0, none⟩) n n) (w.alloc (.cells ((List.replicate n (0 : Int)).map (Value.int .u8)).toArray 5)) := by
  obtain ⟨i, hi, hz⟩ := Option.map_eq_some_iff.1 infoB5
  simp only [Prod.mk.injEq] at hz
  have h := run_make (P := Tryd.prog) w 59 5 i (.int .u8 0) Tryd.underlying59 hi hz.1 .i64 .i64 n n (by omega) (Int.le_refl _) (by rw [hz.2.2]; omega) (by omega)
  simp only [Int.toNat_natCast] at h
  rw [h, hz.2.1, Nat.mul_one, List.map_replicate]
  have e : madeCells (Value.cells (.int .u8 0)) n = (List.replicate n (Value.int .u8 0)).toArray := by
    apply Array.toList_inj.1
    exact toList_madeCells_one _ n
  rw [e]

/-- What pop puts together. -/
def bodyStep (q : Int) (b : List Int) (x : S68) : List Int := if x.f2 = q then splice b x.f3.toNat (bytesOf x.f4) else b
def bodyS (q : Int) (l : List S68) (n : Nat) : List Int := l.foldl (bodyStep q) (List.replicate n 0)
def restS (q : Int) (l : List S68) : List S68 := l.filter fun x => !(x.f2 == q)
def FitS (q : Int) (l : List S68) (n : Nat) : Prop := ∀ x ∈ l, x.f2 = q → ∃ o : Nat, x.f3 = o ∧ o + x.f4.size ≤ n
theorem bytesOf_len (s : ByteArray) : (bytesOf s).length = s.size := by simp [bytesOf]
theorem body_len {q : Int} {n : Nat} : ∀ {l : List S68} {b : List Int}, FitS q l n → b.length = n → (l.foldl (bodyStep q) b).length = n
  | [], b, _, hb => hb
  | x :: l, b, h, hb => body_len (l := l) (b := bodyStep q b x) (fun y hy => h y (by simp [hy])) (by
      unfold bodyStep
      split
      · rename_i hx
        obtain ⟨o, ho, hf⟩ := h x (by simp) hx
        rw [length_splice _ _ _ (by rw [bytesOf_len, ho]; simp; omega), hb]
      · exact hb)
theorem restS_snoc (q : Int) (l : List S68) (x : S68) : restS q (l ++ [x]) = if x.f2 = q then restS q l else restS q l ++ [x] := by
  unfold restS
  rw [List.filter_append]
  by_cases h : x.f2 = q
  · simp [h]
  · simp [h]
theorem splice_map {α β : Type} (f : α → β) (L : List α) (o : Nat) (cs : List α) : splice (L.map f) o (cs.map f) = (splice L o cs).map f := by
  simp [splice, List.map_take, List.map_drop]

def bcells (z : List Int) : List Value := z.map (Value.int .u8)
theorem body_own {w : World} {g n : Nat} {Z : List Int} (h : w.heap[g]? = some (.cells (bcells Z).toArray 5)) (hl : Z.length = n) (hn : n ≤ 100000) : w.ownsRow g 5 1 (.slice (some ⟨g, 0, none⟩) n n) n (nums .u8 Z) := by
  have e : nums .u8 Z = bcells Z := rfl
  have hz : (bcells Z).length = n := by rw [bcells, List.length_map, hl]
  exact ⟨by rw [e, hz, Nat.mul_one], .inr ⟨g, n, (bcells Z).toArray, rfl, Nat.le_refl _, h, Nat.le_refl _, by simp [maxLen]; omega, by simpa using hz, by rw [e]; exact List.take_of_length_le (by simp [hz])⟩⟩
/-- What pop tells, and what it leaves. -/
structure PopPost (base G : Nat) (l : List S68) (nx : Int) (p : S68) (n : Nat) (hd : ByteArray) (w : World) (e : Ending) (w' : World) : Prop where
  ret : e = .returned (.agg #[.bool false, .bool false, .bool false, .bool true, .string (hd ++ strOfNums (bodyS nx l n)), .int .u16 p.f5, .int .i64 0])
  buf : ∃ v', SpB w' base G v' (restS nx l) (nx + 1)
  keep : KeepS base w w'

set_option linter.unusedSimpArgs false in
set_option linter.unusedVariables false in
set_option maxRecDepth 100000 in
set_option maxHeartbeats 4000000 in
theorem spop_some (base G : Nat) (v : Value) (l : List S68) (nx : Int) (p : S68) (n : Nat) (hd : ByteArray) (w : World) (hs : SpB w base G v l nx) (hn : l.length ≤ 1000000) (hG : base ≤ G) (hbw : base ≤ w.heap.size) (hnx : 0 ≤ nx ∧ nx ≤ 1000000) (hsm : SmallS l) (hst : startS nx l = some p) (hpn : p.f1 = (n : Int)) (hnn : n ≤ 100000) (hcov : ¬ covIter nx l l.length < (n : Int)) (hfit : FitS nx l n)
    (hhd : spec_Head.f p.f0 p.f1 p.f2 0 p.f1 = some hd) (hhl : hd.size ≤ 1000) :
    Calls Tryd.prog 29 #[.pointer (some ⟨G, 0, none⟩)] w (PopPost base G l nx p n hd w) := by
  have HS := Aside0.mk hs
  have HN := Aside0.mk hn
  have HSM := Aside0.mk hsm
  have HST := Aside0.mk hst
  have HBW := Aside0.mk hbw
  have HG := Aside0.mk hG
  have HNX := Aside0.mk hnx
  have HNN := Aside0.mk hnn
  have HCV := Aside0.mk hcov
  have HFT := Aside0.mk hfit
  rw [hpn] at hhd
  have HHD := Aside0.mk hhd
  have HHL := Aside0.mk hhl
  have HPN := Aside0.mk hpn
  clear hs hn hsm hst hbw hG hnx hnn hcov hfit hhd hhl hpn
  go_enter Tryd.func29, Tryd.ntmps29
  go_upto_region 1 with fail
  have HB1 : Aside0 (Below w.heap.size w (w.alloc (.cells #[.bool false, .bool false, .bool false, .bool false, .string ⟨#[]⟩, .int .u16 0, .int .i64 0] 43))) := ⟨below_alloc (Below.refl _ w) _⟩
  have HT1 : Aside0 ((w.alloc (.cells #[.bool false, .bool false, .bool false, .bool false, .string ⟨#[]⟩, .int .u16 0, .int .i64 0] 43)).heap[w.heap.size]? = some (.cells #[.bool false, .bool false, .bool false, .bool false, .string ⟨#[]⟩, .int .u16 0, .int .i64 0] 43)) := ⟨blk_new w _⟩
  have HS1 := Aside0.mk (HS.out.below HB1.out)
  clear HS
  generalize w.alloc (.cells #[.bool false, .bool false, .bool false, .bool false, .string ⟨#[]⟩, .int .u16 0, .int .i64 0] 43) = W1 at *
  have g1 : W1.cell? ⟨G, 1, none⟩ = some (.int .i64 nx) := cellB HS1.out.blk 1
  go_wp2_with fail
  refine (start_any base G v l nx nx W1 HS1.out HN.out).mono ?_
  rintro e W2 ⟨p', rfl, hp, hb⟩
  obtain rfl := hp p HST.out
  rw [HST.out]
  have HB2 := Aside0.mk (below_then HB1.out HB1.out.size hb)
  have HT2 := Aside0.mk ((hb.block w.heap.size (ltB HT1.out)).trans HT1.out)
  have HS2 := Aside0.mk (HS1.out.below hb)
  clear hb hp HB1 HT1 HS1 g1
  obtain ⟨p0, p1, p2, p3, p4, p5⟩ := p'
  obtain rfl : p1 = (n : Int) := HPN.out
  simp only [Option.isSome_some]
  go_upto_region 2 with fail
  have hb : Below W2.heap.size W2 (W2.alloc (.cells #[.int .u8 p0, .int .i64 n, .int .i64 p2, .int .i64 p3, .string p4, .int .u16 p5] 68)) := below_alloc (Below.refl _ W2) _
  have HB3 := Aside0.mk (below_then HB2.out HB2.out.size hb)
  have HT3 := Aside0.mk ((hb.block w.heap.size (ltB HT2.out)).trans HT2.out)
  have HS3 := Aside0.mk (HS2.out.below hb)
  have HU3 := Aside0.mk (blk_new W2 (.cells #[.int .u8 p0, .int .i64 n, .int .i64 p2, .int .i64 p3, .string p4, .int .u16 p5] 68))
  have HTU : Aside0 (w.heap.size < W2.heap.size) := ⟨ltB HT2.out⟩
  clear hb HB2 HT2 HS2
  generalize W2.alloc (.cells #[.int .u8 p0, .int .i64 n, .int .i64 p2, .int .i64 p3, .string p4, .int .u16 p5] 68) = W3 at *
  generalize W2.heap.size = TU at *
  have g1 : W3.cell? ⟨G, 1, none⟩ = some (.int .i64 nx) := cellB HS3.out.blk 1
  have u1 : W3.cell? ⟨TU, 1, none⟩ = some (.int .i64 n) := (blk_cell HU3.out 1).trans rfl
  go_cut [30] (fun g wx => g = .bool false ∧ Below W3.heap.size W3 wx)
  case first =>
    have hd : decide (covIter nx l l.length < (n : Int)) = false := decide_eq_false (by have := HCV.out; omega)
    have cA := fun d os => Calls.regrown_of (covered_any base G v l nx nx (Sort.grow (redrawn W3 d) os) (HS3.out.below (below_regrown W3 d os)) HN.out HSM.out)
    have g1' := cell_regrown g1
    have u1' := cell_regrown u1
    clear g1 u1
    refine wp_region_quiet_below (by kernel_rfl) (by kernel_rfl) ?_
    repeat (go_big_quiet_step (exact cA _ _))
    refine wpQuiet_nil ?_
    intro _ hw'
    obtain ⟨⟨dr, osr⟩, hw''⟩ := hw'
    subst hw''
    have HBQ := Aside0.mk (below_regrown W3 dr osr)
    go_wp2_with fail
    go_meet
    exact ⟨rfl, HBQ.out⟩
  case rest =>
    obtain ⟨hg, hbx⟩ := hcut
    rw [hg]
    have HT4 := Aside0.mk ((hbx.block w.heap.size (ltB HT3.out)).trans HT3.out)
    have HU4 := Aside0.mk ((hbx.block TU (ltB HU3.out)).trans HU3.out)
    have HS4 := Aside0.mk (HS3.out.below hbx)
    have HB4 := Aside0.mk (below_then HB3.out HB3.out.size hbx)
    clear hg hbx HT3 HB3 HS3 HU3 g1 u1
    have u1 : wc.cell? ⟨TU, 1, none⟩ = some (.int .i64 n) := (blk_cell HU4.out 1).trans rfl
    have mk := mkn wc n (by have := HNN.out; omega)
    obtain ⟨Z0, hz0⟩ : ∃ Z0, Z0 = List.replicate n (0 : Int) := ⟨_, rfl⟩
    rw [← hz0, show Z0.map (Value.int .u8) = bcells Z0 from rfl] at mk
    have HZ0 := Aside0.mk hz0
    clear hz0
    go_upto_region 5 with fail
    simp only at HHD HPN
    have HB5 : Aside0 (Below wc.heap.size wc (wc.alloc (.cells (bcells Z0).toArray 5))) := ⟨below_alloc (Below.refl _ wc) _⟩
    have HBD := Aside0.mk (blk_new wc (.cells (bcells Z0).toArray 5))
    have HBG : Aside0 (wc.heap.size < (wc.alloc (.cells (bcells Z0).toArray 5)).heap.size) := ⟨ltB HBD.out⟩
    have HKW : Aside0 (w.heap.size < wc.heap.size ∧ TU < wc.heap.size ∧ G < wc.heap.size) := ⟨⟨ltB HT4.out, ltB HU4.out, ltB HS4.out.blk⟩⟩
    clear mk u1
    generalize wc.alloc (.cells (bcells Z0).toArray 5) = W5 at *
    obtain ⟨A, c, hv⟩ := Kd.R_slice HS4.out.row
    subst hv
    go_wp2_with fail
    go_loopw [6, 7] (fun v6 v7 wr => ∃ (j : Nat), v7 = .int .i64 j ∧ j ≤ l.length ∧ Aside0 (Kd.R k68 68 wr W5.heap.size (fun _ => True) v6 (restS nx (l.take j))) ∧ Aside0 (wr.heap[wc.heap.size]? = some (.cells (bcells ((l.take j).foldl (bodyStep nx) Z0)).toArray 5)) ∧ Aside0 (Below wc.heap.size wc wr) ∧ Aside0 (W5.heap.size ≤ wr.heap.size)) (fun _ v7 _ => l.length - (intOf v7).toNat)
    case atStart => exact ⟨0, rfl, Nat.zero_le _, ⟨Kd.R_nil _ _ _ _ _⟩, HBD, HB5, ⟨Nat.le_refl _⟩⟩
    case round =>
      clear HBD HB5
      obtain ⟨j, rfl, hj, HR, HBD, HB5, HSZ⟩ := hrel
      have HSR := Aside0.mk (HS4.out.below HB5.out)
      have c0 : wr.cell? ⟨G, 0, none⟩ = some (.slice A l.length c) := cellB HSR.out.blk 0
      by_cases hlt : j < l.length
      · have p1 : (0 : Int) ≤ (j : Int) := by omega
        have p2' : (j : Int) < (l.length : Int) := by omega
        have HJ := Aside0.mk hlt
        obtain ⟨ad, hA, x0, x1, x2, x3, x4, x5⟩ := at_T68 (Kd.R_reads' HSR.out.row).2.2 (j : Int) p1 p2'
        subst hA
        obtain ⟨x, hx⟩ : ∃ x, rd_T68 l (j : Int) = x := ⟨_, rfl⟩
        rw [hx] at x0 x1 x2 x3 x4 x5
        rw [Int.toNat_natCast] at x0 x1 x2 x3 x4 x5
        have hxl : l[j]? = some x := by
          rw [← hx, rd_T68, Int.toNat_natCast, List.getD_eq_getElem?_getD, List.getElem?_eq_getElem hlt]
          rfl
        have HXF := Aside0.mk (HFT.out x (List.mem_of_getElem? hxl))
        have hrs := restS_snoc nx (l.take j) x
        rw [← take_get l j x hxl] at hrs
        have HRS := Aside0.mk hrs
        have hbd : (l.take (j + 1)).foldl (bodyStep nx) Z0 = bodyStep nx ((l.take j).foldl (bodyStep nx) Z0) x := by
          rw [take_get l j x hxl, List.foldl_append]
          rfl
        have HBS := Aside0.mk hbd
        have HLB : Aside0 (((l.take j).foldl (bodyStep nx) Z0).length = n) := ⟨body_len (fun y hy => HFT.out y (List.mem_of_mem_take hy)) (by rw [HZ0.out]; simp)⟩
        have HW2 : Aside0 (wrap64 ((j : Int) + 1) = ((j + 1 : Nat) : Int)) := ⟨by have := HN.out; unfold wrap64; omega⟩
        have HRL : Aside0 ((restS nx (l.take j)).length ≤ 1000000) := ⟨by
          have h1 : (restS nx (l.take j)).length ≤ (l.take j).length := List.length_filter_le _ _
          rw [List.length_take] at h1
          have := HN.out
          omega⟩
        generalize restS nx (l.take j) = RJ at *
        generalize (l.take j).foldl (bodyStep nx) Z0 = ZJ at *
        clear hx hxl hrs hbd hj hlt
        go_upto_region 10 with fail
        have hb : Below wr.heap.size wr (wr.alloc (.cells #[.int .u8 x.f0, .int .i64 x.f1, .int .i64 x.f2, .int .i64 x.f3, .string x.f4, .int .u16 x.f5] 68)) := below_alloc (Below.refl _ wr) _
        have HBQ := Aside0.mk hb
        have HP := Aside0.mk (blk_new wr (.cells #[.int .u8 x.f0, .int .i64 x.f1, .int .i64 x.f2, .int .i64 x.f3, .string x.f4, .int .u16 x.f5] 68))
        clear hb c0 x0 x1 x2 x3 x4 x5
        generalize wr.alloc (.cells #[.int .u8 x.f0, .int .i64 x.f1, .int .i64 x.f2, .int .i64 x.f3, .string x.f4, .int .u16 x.f5] 68) = WP at *
        have y2 : WP.cell? ⟨wr.heap.size, 2, none⟩ = some (.int .i64 x.f2) := (blk_cell HP.out 2).trans rfl
        have HSP := Aside0.mk (HSR.out.below HBQ.out)
        have c1 : WP.cell? ⟨G, 1, none⟩ = some (.int .i64 nx) := cellB HSP.out.blk 1
        cases h2 : (x.f2 != nx) with
        | true =>
          have HNE : Aside0 (x.f2 ≠ nx) := ⟨by simpa using h2⟩
          go_quiet (fail)
          have HQ : Aside0 (Below wr.heap.size wr (WP.drewN nq)) := ⟨pw_below_drewN HBQ.out nq⟩
          have HPQ : Aside0 ((WP.drewN nq).heap[wr.heap.size]? = _) := ⟨HP.out⟩
          clear c1 y2 HBQ HP HSP
          generalize WP.drewN nq = WQ at *
          obtain ⟨A6, c6, rfl⟩ := Kd.R_slice HR.out
          have y0 : WQ.cell? ⟨wr.heap.size, 0, none⟩ = some (.int .u8 x.f0) := (blk_cell HPQ.out 0).trans rfl
          have y1 : WQ.cell? ⟨wr.heap.size, 1, none⟩ = some (.int .i64 x.f1) := (blk_cell HPQ.out 1).trans rfl
          have y2 : WQ.cell? ⟨wr.heap.size, 2, none⟩ = some (.int .i64 x.f2) := (blk_cell HPQ.out 2).trans rfl
          have y3 : WQ.cell? ⟨wr.heap.size, 3, none⟩ = some (.int .i64 x.f3) := (blk_cell HPQ.out 3).trans rfl
          have y4 : WQ.cell? ⟨wr.heap.size, 4, none⟩ = some (.string x.f4) := (blk_cell HPQ.out 4).trans rfl
          have y5 : WQ.cell? ⟨wr.heap.size, 5, none⟩ = some (.int .u16 x.f5) := (blk_cell HPQ.out 5).trans rfl
          have HRQ := Aside0.mk (Kd.R_below HR.out HQ.out)
          have HSQ : Aside0 (W5.heap.size ≤ WQ.heap.size) := ⟨Nat.le_trans HSZ.out HQ.out.size⟩
          go_wp2_with ((with_reducible refine gate_builtin (b := .append) (xs := #[.tmp 58, .tmp 60]) rfl ?_); at_builtin; refine Kd.R_append k68 (w0 := WQ) W5.heap.size rfl (.tmp 58) (.tmp 60) 63 68 (.agg #[(.int .u8 0), (.int .i64 0), (.int .i64 0), (.int .i64 0), (.string ⟨#[]⟩), (.int .u16 0)]) 56 rfl Tryd.underlying63 info68 rfl (by decide) (by omega) (.slice A6 RJ.length c6) RJ x [.int .u8 x.f0, .int .i64 x.f1, .int .i64 x.f2, .int .i64 x.f3, .string x.f4, .int .u16 x.f5] (fun _ => True) (fun _ => False) rfl rfl ?aP (fun _ hk => hk.elim) ?aF ?aO ?aB ?aS ?aL ?_; (case aP => exact k68_mkM _ _ _ x); (case aB => exact Below.refl _ _); (case aF => exact (fun _ _ => trivial)); (case aO => exact HRQ.out); (case aS => exact HSQ.out); (case aL => have := HRL.out; omega); intro v7 w7 ho hb hg hat; have HO7 := Aside0.mk ho; have HB7 := Aside0.mk hb; clear ho hb hg hat)
          go_roundw
          case rel =>
            refine ⟨j + 1, by rw [HW2.out], HJ.out, ⟨?_⟩, ⟨?_⟩, ⟨?_⟩, ⟨?_⟩⟩
            · rw [HRS.out, if_neg HNE.out]; exact HO7.out
            · rw [HBS.out, bodyStep, if_neg HNE.out]
              exact ((HB7.out.block _ HBG.out).trans (HQ.out.block _ (ltB HBD.out))).trans HBD.out
            · exact HB5.out.trans ((HQ.out.mono HB5.out.size).trans (HB7.out.mono (Nat.le_of_lt HBG.out)))
            · exact Nat.le_trans HSQ.out HB7.out.size
          case measure => exact meas _ _ _ HJ.out HW2.out
        | false =>
          have HEQ : Aside0 (x.f2 = nx) := ⟨by simpa using h2⟩
          obtain ⟨o, ho, hfo⟩ := HXF.out HEQ.out
          have HFO := Aside0.mk hfo
          have HO := Aside0.mk ho
          clear ho hfo
          go_quiet (fail)
          have HQ : Aside0 (Below wr.heap.size wr (WP.drewN nq)) := ⟨pw_below_drewN HBQ.out nq⟩
          have HPQ : Aside0 ((WP.drewN nq).heap[wr.heap.size]? = _) := ⟨HP.out⟩
          clear c1 y2 HBQ HP HSP
          generalize WP.drewN nq = WQ at *
          go_wp2_with fail
          have y3 : WQ.cell? ⟨wr.heap.size, 3, none⟩ = some (.int .i64 o) := by rw [← HO.out]; exact (blk_cell HPQ.out 3).trans rfl
          have y4 : WQ.cell? ⟨wr.heap.size, 4, none⟩ = some (.string x.f4) := (blk_cell HPQ.out 4).trans rfl
          have HBD2 : Aside0 (WQ.drew.heap[wc.heap.size]? = some (.cells (bcells ZJ).toArray 5)) := ⟨(HQ.out.block _ (ltB HBD.out)).trans HBD.out⟩
          have HLE : Aside0 (x.f4.size ≤ n - o) := ⟨by have := HFO.out; omega⟩
          have HLF : Aside0 (o + x.f4.size ≤ (bcells ZJ).length) := ⟨by rw [bcells, List.length_map, HLB.out]; exact HFO.out⟩
          have hon : (o : Int) ≤ (n : Int) := by have := HFO.out; omega
          by_cases hno : n = o
          · subst hno
            have HDP : Aside0 (0 < x.f4.size → (some ⟨wc.heap.size, 0, none⟩ : Option Addr) = some ⟨wc.heap.size, n, none⟩) := ⟨fun h => by have := HFO.out; omega⟩
            go_region_law (refine step_copy_str rfl (.tmp 65) (.tmp 67) 59 9 rfl 5 Tryd.underlying59 size5 (some ⟨wc.heap.size, 0, none⟩) (n - n) (n - n) (by go_simp) x.f4 (by go_simp) wc.heap.size n (bcells ZJ) 5 HBD2.out HLE.out HDP.out HLF.out ?_; intro w7 hg7 hb7)
            all_goals
              have HG7 : Aside0 (w7.heap[wc.heap.size]? = some (.cells (splice (bcells ZJ) n ((bytesOf x.f4).map (Value.int .u8))).toArray 5)) := ⟨hg7⟩
              have HB7 : Aside0 (WQ.drew.grownBy w7 (some wc.heap.size)) := ⟨hb7⟩
              clear hg7 hb7 y3 y4
              have hbw : Below wc.heap.size WQ.drew w7 := ⟨HB7.out.os, HB7.out.tape, HB7.out.output, HB7.out.size, fun k hk => HB7.out.block k (Nat.lt_of_lt_of_le hk (Nat.le_trans HB5.out.size HQ.out.size)) (fun e => by injection e with e; omega)⟩
              have Q1 : Aside0 (Kd.R k68 68 w7 W5.heap.size (fun _ => True) u6 (restS nx (l.take (j + 1)))) := ⟨by
                  rw [HRS.out, if_pos HEQ.out]
                  exact Kd.R_drop (Kd.R_grown (Kd.R_types (Kd.R_drew (Kd.R_below HR.out HQ.out)) HBD2.out (fun q hq => by
                    have : q = 68 := by simpa [k68, Kd.iso, Kd.pair, Kd.int, Kd.string, Kd.scalar] using hq
                    omega)) HB7.out (fun k hk e => hk.2 (by injection e)))⟩
              have Q2 : Aside0 (w7.heap[wc.heap.size]? = some (.cells (bcells ((l.take (j + 1)).foldl (bodyStep nx) Z0)).toArray 5)) := ⟨by
                  rw [HG7.out, HBS.out, bodyStep, if_pos HEQ.out, HO.out, Int.toNat_natCast, bcells, splice_map]
                  rfl⟩
              have Q3 : Aside0 (Below wc.heap.size wc w7) := ⟨by
                  exact HB5.out.trans ((below_drew1 (HQ.out.mono HB5.out.size)).trans hbw)⟩
              have Q4 : Aside0 (W5.heap.size ≤ w7.heap.size) := ⟨by
                  exact Nat.le_trans HSZ.out (Nat.le_trans HQ.out.size HB7.out.size)⟩
              clear hbw
              go_wp2_with fail
              go_roundw
              case rel => exact ⟨j + 1, by rw [HW2.out], HJ.out, Q1, Q2, Q3, Q4⟩
              case measure => exact meas _ _ _ HJ.out HW2.out
          · have HDP : Aside0 (0 < x.f4.size → (some ⟨wc.heap.size, o, none⟩ : Option Addr) = some ⟨wc.heap.size, o, none⟩) := ⟨fun h => rfl⟩
            go_region_law (refine step_copy_str rfl (.tmp 65) (.tmp 67) 59 9 rfl 5 Tryd.underlying59 size5 (some ⟨wc.heap.size, o, none⟩) (n - o) (n - o) (by go_simp) x.f4 (by go_simp) wc.heap.size o (bcells ZJ) 5 HBD2.out HLE.out HDP.out HLF.out ?_; intro w7 hg7 hb7)
            all_goals
              have HG7 : Aside0 (w7.heap[wc.heap.size]? = some (.cells (splice (bcells ZJ) o ((bytesOf x.f4).map (Value.int .u8))).toArray 5)) := ⟨hg7⟩
              have HB7 : Aside0 (WQ.drew.grownBy w7 (some wc.heap.size)) := ⟨hb7⟩
              clear hg7 hb7 y3 y4
              have hbw : Below wc.heap.size WQ.drew w7 := ⟨HB7.out.os, HB7.out.tape, HB7.out.output, HB7.out.size, fun k hk => HB7.out.block k (Nat.lt_of_lt_of_le hk (Nat.le_trans HB5.out.size HQ.out.size)) (fun e => by injection e with e; omega)⟩
              have Q1 : Aside0 (Kd.R k68 68 w7 W5.heap.size (fun _ => True) u6 (restS nx (l.take (j + 1)))) := ⟨by
                  rw [HRS.out, if_pos HEQ.out]
                  exact Kd.R_drop (Kd.R_grown (Kd.R_types (Kd.R_drew (Kd.R_below HR.out HQ.out)) HBD2.out (fun q hq => by
                    have : q = 68 := by simpa [k68, Kd.iso, Kd.pair, Kd.int, Kd.string, Kd.scalar] using hq
                    omega)) HB7.out (fun k hk e => hk.2 (by injection e)))⟩
              have Q2 : Aside0 (w7.heap[wc.heap.size]? = some (.cells (bcells ((l.take (j + 1)).foldl (bodyStep nx) Z0)).toArray 5)) := ⟨by
                  rw [HG7.out, HBS.out, bodyStep, if_pos HEQ.out, HO.out, Int.toNat_natCast, bcells, splice_map]
                  rfl⟩
              have Q3 : Aside0 (Below wc.heap.size wc w7) := ⟨by
                  exact HB5.out.trans ((below_drew1 (HQ.out.mono HB5.out.size)).trans hbw)⟩
              have Q4 : Aside0 (W5.heap.size ≤ w7.heap.size) := ⟨by
                  exact Nat.le_trans HSZ.out (Nat.le_trans HQ.out.size HB7.out.size)⟩
              clear hbw
              go_wp2_with fail
              go_roundw
              case rel => exact ⟨j + 1, by rw [HW2.out], HJ.out, Q1, Q2, Q3, Q4⟩
              case measure => exact meas _ _ _ HJ.out HW2.out
      · have hjl : j = l.length := by omega
        rw [hjl, List.take_length] at HR HBD
        clear hjl hj
        obtain ⟨A6, c6, hv6⟩ := Kd.R_slice HR.out
        subst hv6
        have p3 : ¬ (j : Int) < (l.length : Int) := by omega
        have c1 : wr.cell? ⟨G, 1, none⟩ = some (.int .i64 nx) := cellB HSR.out.blk 1
        have cf := fun j => frozB HSR.out.blk j
        have HWN : Aside0 (wrap64 (nx + 1) = nx + 1) := ⟨by have := HNX.out; unfold wrap64; omega⟩
        clear hlt
        go_upto_region 15 with fail
        rw [HWN.out]
        have hG1 := blk_setL HSR.out.blk 0 (.slice A6 (restS nx l).length c6)
        have hG2 := blk_setL hG1 1 (.int .i64 (nx + 1))
        have HB8 : Aside0 (Below w.heap.size w wr) := ⟨below_then HB4.out HB4.out.size HB5.out⟩
        have HK8 : Aside0 (KeepS base w ((wr.setCell ⟨G, 0, none⟩ (.slice A6 (restS nx l).length c6)).setCell ⟨G, 1, none⟩ (.int .i64 (nx + 1)))) := ⟨((KeepS.of_below HBW.out HB8.out).set72 HG.out HSR.out.blk 0 _).set72 HG.out hG1 1 _⟩
        have h68 : ∀ q, q ∈ 68 :: k68.E → q ≠ 72 := fun q hq => by
          have : q = 68 := by simpa [k68, Kd.iso, Kd.pair, Kd.int, Kd.string, Kd.scalar] using hq
          omega
        have HS8 : Aside0 (SpB ((wr.setCell ⟨G, 0, none⟩ (.slice A6 (restS nx l).length c6)).setCell ⟨G, 1, none⟩ (.int .i64 (nx + 1))) base G (.slice A6 (restS nx l).length c6) (restS nx l) (nx + 1)) := ⟨⟨hG2, Kd.R_set (Kd.R_set (Kd.R_lower HR.out (by have := HBW.out; have := HB4.out.size; have := HBG.out; omega)) HSR.out.blk h68 0 _) hG1 h68 1 _⟩⟩
        have far : ∀ (k : Nat) (cs : Array Value) (t : TypeId), wr.heap[k]? = some (.cells cs t) → t ≠ 72 → ((wr.setCell ⟨G, 0, none⟩ (.slice A6 (restS nx l).length c6)).setCell ⟨G, 1, none⟩ (.int .i64 (nx + 1))).heap[k]? = some (.cells cs t) := fun k cs t h ht => by
          have e : k ≠ G := cellsNe h HSR.out.blk ht
          rw [Below.heap_setCell _ ⟨G, 1, none⟩ _ k e, Below.heap_setCell _ ⟨G, 0, none⟩ _ k e, h]
        have HU8 := Aside0.mk (far TU _ _ ((HB5.out.block TU HKW.out.2.1).trans HU4.out) (by decide))
        have HT8 := Aside0.mk (far w.heap.size _ _ ((HB5.out.block w.heap.size HKW.out.1).trans HT4.out) (by decide))
        have HD8 := Aside0.mk (far wc.heap.size _ _ HBD.out (by decide))
        clear hG1 hG2 far c0 c1 cf p3 HR HBD HB5 HSR HSZ HB8 h68
        generalize (wr.setCell ⟨G, 0, none⟩ (.slice A6 (restS nx l).length c6)).setCell ⟨G, 1, none⟩ (.int .i64 (nx + 1)) = W8 at *
        have HBN : Aside0 ((l.foldl (bodyStep nx) Z0).length = n ∧ l.foldl (bodyStep nx) Z0 = bodyS nx l n) := ⟨body_len HFT.out (by rw [HZ0.out]; simp), by rw [HZ0.out]; rfl⟩
        generalize l.foldl (bodyStep nx) Z0 = ZN at *
        generalize wc.heap.size = BG at *
        obtain ⟨BS, hBS⟩ : ∃ BS, BS = strOfNums ZN := ⟨_, rfl⟩
        have HCONV : Aside0 (∀ w' : World, w'.heap[BG]? = some (.cells (bcells ZN).toArray 5) → (convert 59 9 (.slice (some ⟨BG, 0, none⟩) n n)).run Tryd.prog w' = .ok (.string BS) w') := ⟨fun w' h => by rw [hBS]; exact own_string (P := Tryd.prog) Tryd.underlying59 Tryd.underlying5 Tryd.underlying9 (body_own h HBN.out.1 HNN.out)⟩
        have hbs : BS.size = n := by rw [hBS, strOfNums_size, HBN.out.1]
        have HBS := Aside0.mk hBS
        have hbz : hd.size + BS.size ≤ 9223372036854775807 := by have := HHL.out; have := HNN.out; omega
        have hbz2 : (9223372036854775807 < hd.size + BS.size) = False := eq_false (by omega)
        clear hBS hbs
        have u0 : W8.drew.cell? ⟨TU, 0, none⟩ = some (.int .u8 p0) := (blk_cell HU8.out 0).trans rfl
        have u1 : W8.drew.cell? ⟨TU, 1, none⟩ = some (.int .i64 n) := (blk_cell HU8.out 1).trans rfl
        have u2 : W8.drew.cell? ⟨TU, 2, none⟩ = some (.int .i64 p2) := (blk_cell HU8.out 2).trans rfl
        have u5 : W8.drew.cell? ⟨TU, 5, none⟩ = some (.int .u16 p5) := (blk_cell HU8.out 5).trans rfl
        have ud : W8.drew.heap[BG]? = some (.cells (bcells ZN).toArray 5) := HD8.out
        refine wp_region_held_drew (S := fun w' => w'.cell? ⟨TU, 0, none⟩ = some (.int .u8 p0) ∧ w'.cell? ⟨TU, 1, none⟩ = some (.int .i64 n) ∧ w'.cell? ⟨TU, 2, none⟩ = some (.int .i64 p2) ∧ w'.cell? ⟨TU, 5, none⟩ = some (.int .u16 p5) ∧ w'.heap[BG]? = some (.cells (bcells ZN).toArray 5)) (by kernel_rfl) ⟨u0, u1, u2, u5, ud⟩ (fun hHeld => ?_)
        refine wpAnyH_take (i := 0) (v := ?v0) rfl (by kernel_rfl) (by kernel_rfl) (by kernel_rfl) (fun _ _ _ h => h) (Or.inl ⟨by rfl, ?h0⟩) (by assumption) ?r0
        case h0 => intro w hSw; (try dsimp only at hSw); obtain ⟨s0, s1, s2, s5, sb⟩ := hSw; have hcv := HCONV.out _ sb; go_simp; (try with_reducible rfl)
        try simp only [Act.put, List.setIfInBounds_toArray, List.set_cons_zero, List.set_cons_succ]
        refine wpAnyH_take (i := 1) (v := ?v1) rfl (by kernel_rfl) (by kernel_rfl) (by kernel_rfl) (fun _ _ _ h => h) (Or.inl ⟨by rfl, ?h1⟩) (by assumption) ?r1
        case h1 => intro w hSw; (try dsimp only at hSw); obtain ⟨s0, s1, s2, s5, sb⟩ := hSw; have hcv := HCONV.out _ sb; go_simp; (try with_reducible rfl)
        try simp only [Act.put, List.setIfInBounds_toArray, List.set_cons_zero, List.set_cons_succ]
        refine wpAnyH_take (i := 2) (v := ?v2) rfl (by kernel_rfl) (by kernel_rfl) (by kernel_rfl) (fun _ _ _ h => h) (Or.inl ⟨by rfl, ?h2⟩) (by assumption) ?r2
        case h2 => intro w hSw; (try dsimp only at hSw); obtain ⟨s0, s1, s2, s5, sb⟩ := hSw; have hcv := HCONV.out _ sb; go_simp; (try with_reducible rfl)
        try simp only [Act.put, List.setIfInBounds_toArray, List.set_cons_zero, List.set_cons_succ]
        refine wpAnyH_take (i := 3) (v := ?v3) rfl (by kernel_rfl) (by kernel_rfl) (by kernel_rfl) (fun _ _ _ h => h) (Or.inl ⟨by rfl, ?h3⟩) (by assumption) ?r3
        case h3 => intro w hSw; (try dsimp only at hSw); obtain ⟨s0, s1, s2, s5, sb⟩ := hSw; have hcv := HCONV.out _ sb; go_simp; (try with_reducible rfl)
        try simp only [Act.put, List.setIfInBounds_toArray, List.set_cons_zero, List.set_cons_succ]
        refine wpAnyH_take (i := 4) (v := ?v4) rfl (by kernel_rfl) (by kernel_rfl) (by kernel_rfl) (fun _ _ _ h => h) (Or.inl ⟨by rfl, ?h4⟩) (by assumption) ?r4
        case h4 => intro w hSw; (try dsimp only at hSw); obtain ⟨s0, s1, s2, s5, sb⟩ := hSw; have hcv := HCONV.out _ sb; go_simp; (try with_reducible rfl)
        try simp only [Act.put, List.setIfInBounds_toArray, List.set_cons_zero, List.set_cons_succ]
        refine wpAnyH_take (i := 5) (v := ?v5) rfl (by kernel_rfl) (by kernel_rfl) (by kernel_rfl) (fun _ _ _ h => h) (Or.inl ⟨by rfl, ?h5⟩) (by assumption) ?r5
        case h5 => intro w hSw; (try dsimp only at hSw); obtain ⟨s0, s1, s2, s5, sb⟩ := hSw; have hcv := HCONV.out _ sb; go_simp; (try with_reducible rfl)
        try simp only [Act.put, List.setIfInBounds_toArray, List.set_cons_zero, List.set_cons_succ]
        refine wpAnyH_take (i := 6) (v := ?v6) rfl (by kernel_rfl) (by kernel_rfl) (by kernel_rfl) (fun _ _ _ h => h) (Or.inl ⟨by rfl, ?h6⟩) (by assumption) ?r6
        case h6 => intro w hSw; (try dsimp only at hSw); obtain ⟨s0, s1, s2, s5, sb⟩ := hSw; have hcv := HCONV.out _ sb; go_simp; (try with_reducible rfl)
        try simp only [Act.put, List.setIfInBounds_toArray, List.set_cons_zero, List.set_cons_succ]
        refine wpAnyH_take (i := 7) (v := ?v7) rfl (by kernel_rfl) (by kernel_rfl) (by kernel_rfl) (fun _ _ _ h => h) (Or.inl ⟨by rfl, ?h7⟩) (by assumption) ?r7
        case h7 => intro w hSw; (try dsimp only at hSw); obtain ⟨s0, s1, s2, s5, sb⟩ := hSw; have hcv := HCONV.out _ sb; go_simp; (try with_reducible rfl)
        try simp only [Act.put, List.setIfInBounds_toArray, List.set_cons_zero, List.set_cons_succ]
        refine wpAnyH_take (i := 9) (v := ?v9) rfl (by kernel_rfl) (by kernel_rfl) (by kernel_rfl) (fun _ _ _ h => h) (Or.inl ⟨by rfl, ?h9⟩) (by assumption) ?r9
        case h9 => intro w hSw; (try dsimp only at hSw); obtain ⟨s0, s1, s2, s5, sb⟩ := hSw; have hcv := HCONV.out _ sb; go_simp; (try with_reducible rfl)
        try simp only [Act.put, List.setIfInBounds_toArray, List.set_cons_zero, List.set_cons_succ]
        refine wpAnyH_take (i := 10) (v := ?v10) rfl (by kernel_rfl) (by kernel_rfl) (by kernel_rfl) (fun _ _ _ h => h) (Or.inl ⟨by rfl, ?h10⟩) (by assumption) ?r10
        case h10 => intro w hSw; (try dsimp only at hSw); obtain ⟨s0, s1, s2, s5, sb⟩ := hSw; have hcv := HCONV.out _ sb; go_simp; (try with_reducible rfl)
        try simp only [Act.put, List.setIfInBounds_toArray, List.set_cons_zero, List.set_cons_succ]
        refine wpAnyH_take (i := 12) (v := ?v12) rfl (by kernel_rfl) (by kernel_rfl) (by kernel_rfl) (fun _ _ _ h => h) (Or.inl ⟨by rfl, ?h12⟩) (by assumption) ?r12
        case h12 => intro w hSw; (try dsimp only at hSw); obtain ⟨s0, s1, s2, s5, sb⟩ := hSw; have hcv := HCONV.out _ sb; go_simp; (try with_reducible rfl)
        try simp only [Act.put, List.setIfInBounds_toArray, List.set_cons_zero, List.set_cons_succ]
        refine wpAnyH_take (i := 13) (v := ?v13) rfl (by kernel_rfl) (by kernel_rfl) (by kernel_rfl) (fun _ _ _ h => h) (Or.inl ⟨by rfl, ?h13⟩) (by assumption) ?r13
        case h13 => intro w hSw; (try dsimp only at hSw); obtain ⟨s0, s1, s2, s5, sb⟩ := hSw; have hcv := HCONV.out _ sb; go_simp; (try with_reducible rfl)
        try simp only [Act.put, List.setIfInBounds_toArray, List.set_cons_zero, List.set_cons_succ]
        refine wpAnyH_ready (rs := [8]) (by kernel_rfl) (by simp) ?_
        refine AllReadyH.cons rfl (fun K hK => ?_) AllReadyH.nil
        go_simp
        refine (spec_Head.calls p0 n p2 0 n hd W8.drew HHD.out).mono ?_
        rintro e w9 ⟨rfl, hb9⟩
        have HB9 := Aside0.mk hb9
        have HT9 : Aside0 (w9.heap[w.heap.size]? = some (.cells #[.bool false, .bool false, .bool false, .bool false, .string ⟨#[]⟩, .int .u16 0, .int .i64 0] 43)) := ⟨(hb9.block w.heap.size (ltB (w := W8.drew) HT8.out)).trans HT8.out⟩
        have HS9 := Aside0.mk (HS8.out.drew.below hb9)
        have HK9 : Aside0 (KeepS base w w9) := ⟨HK8.out.drew.trans (KeepS.of_below (Nat.le_trans HBW.out HK8.out.below.size) hb9)⟩
        have v0 := pw_cell_below hb9 u0
        have v1 := pw_cell_below hb9 u1
        have v2 := pw_cell_below hb9 u2
        have v5 := pw_cell_below hb9 u5
        have vd := (hb9.block BG (ltB (w := W8.drew) ud)).trans ud
        refine hK.out _ _ ⟨v0, v1, v2, v5, vd⟩ (fun hHeld => ?_)
        clear hK K hb9 HB9 u0 u1 u2 u5 ud HT8 HS8 HK8 HU8 HD8
        refine wpAnyH_take (i := 11) (v := ?v11) rfl (by kernel_rfl) (by kernel_rfl) (by kernel_rfl) (fun _ _ _ h => h) (Or.inl ⟨by rfl, ?h11⟩) (by assumption) ?r11
        case h11 => intro w hSw; (try dsimp only at hSw); go_simp; (try with_reducible rfl)
        try simp only [Act.put, List.setIfInBounds_toArray, List.set_cons_zero, List.set_cons_succ]
        refine wpAnyH_take (i := 14) (v := ?v14) rfl (by kernel_rfl) (by kernel_rfl) (by kernel_rfl) (fun _ _ _ h => h) (Or.inl ⟨by rfl, ?h14⟩) (by assumption) ?r14
        case h14 => intro w hSw; (try dsimp only at hSw); go_simp; (try with_reducible rfl)
        try simp only [Act.put, List.setIfInBounds_toArray, List.set_cons_zero, List.set_cons_succ]
        have t0 : w9.cell? ⟨w.heap.size, 0, none⟩ = some (.bool false) := (blk_cell HT9.out 0).trans rfl
        have t1 : w9.cell? ⟨w.heap.size, 1, none⟩ = some (.bool false) := (blk_cell HT9.out 1).trans rfl
        have t2 : w9.cell? ⟨w.heap.size, 2, none⟩ = some (.bool false) := (blk_cell HT9.out 2).trans rfl
        have t3 : w9.cell? ⟨w.heap.size, 3, none⟩ = some (.bool false) := (blk_cell HT9.out 3).trans rfl
        have t4 : w9.cell? ⟨w.heap.size, 4, none⟩ = some (.string ⟨#[]⟩) := (blk_cell HT9.out 4).trans rfl
        have t5 : w9.cell? ⟨w.heap.size, 5, none⟩ = some (.int .u16 0) := (blk_cell HT9.out 5).trans rfl
        have t6 : w9.cell? ⟨w.heap.size, 6, none⟩ = some (.int .i64 0) := (blk_cell HT9.out 6).trans rfl
        have tf := fun j => blk_frozen HT9.out j
        have WF : ∃ WX : World, WX = (((((((w9.setCell ⟨w.heap.size, 0, none⟩ (.bool false)).setCell ⟨w.heap.size, 1, none⟩ (.bool false)).setCell ⟨w.heap.size, 2, none⟩ (.bool false)).setCell ⟨w.heap.size, 3, none⟩ (.bool true)).setCell ⟨w.heap.size, 4, none⟩ (.string (hd ++ BS))).setCell ⟨w.heap.size, 5, none⟩ (.int .u16 p5)).setCell ⟨w.heap.size, 6, none⟩ (.int .i64 0)) := ⟨_, rfl⟩
        obtain ⟨WX, hWX⟩ := WF
        have HC : Aside0 (WX.heap[w.heap.size]? = some (.cells #[.bool false, .bool false, .bool false, .bool true, .string (hd ++ BS), .int .u16 p5, .int .i64 0] 43)) := ⟨by
          have h := (blk_set (blk_set (blk_set (blk_set (blk_set (blk_set (blk_set HT9.out 0 (.bool false)) 1 (.bool false)) 2 (.bool false)) 3 (.bool true)) 4 (.string (hd ++ BS))) 5 (.int .u16 p5)) 6 (.int .i64 0))
          rw [hWX]
          simpa using h⟩
        have HKF : Aside0 (KeepS base w WX ∧ SpB WX base G (.slice A6 (restS nx l).length c6) (restS nx l) (nx + 1)) := ⟨by
          have hle := HBW.out
          have e0 := blk_set HT9.out 0 (.bool false)
          have e1 := blk_set e0 1 (.bool false)
          have e2 := blk_set e1 2 (.bool false)
          have e3 := blk_set e2 3 (.bool true)
          have e4 := blk_set e3 4 (.string (hd ++ BS))
          have e5 := blk_set e4 5 (.int .u16 p5)
          rw [hWX]
          exact ⟨((((((HK9.out.set hle (Nat.le_refl _) 0 _).set hle (Nat.le_refl _) 1 _).set hle (Nat.le_refl _) 2 _).set hle (Nat.le_refl _) 3 _).set hle (Nat.le_refl _) 4 _).set hle (Nat.le_refl _) 5 _).set hle (Nat.le_refl _) 6 _, ((((((HS9.out.set HT9.out (by decide) (by decide) 0 _).set e0 (by decide) (by decide) 1 _).set e1 (by decide) (by decide) 2 _).set e2 (by decide) (by decide) 3 _).set e3 (by decide) (by decide) 4 _).set e4 (by decide) (by decide) 5 _).set e5 (by decide) (by decide) 6 _⟩⟩
        have HFAR : Aside0 (∀ k, k ≠ w.heap.size → WX.heap[k]? = w9.heap[k]?) := ⟨fun k hk => by
          rw [hWX]
          iterate 7 rw [Below.heap_setCell _ _ _ k (by exact hk)]⟩
        have HNE : Aside0 (TU ≠ w.heap.size ∧ BG ≠ w.heap.size) := ⟨by have := HTU.out; omega, by have := HKW.out.1; omega⟩
        have z0 := (World.cell?_of_block (a := ⟨TU, 0, none⟩) (HFAR.out TU HNE.out.1)).trans v0
        have z1 := (World.cell?_of_block (a := ⟨TU, 1, none⟩) (HFAR.out TU HNE.out.1)).trans v1
        have z2 := (World.cell?_of_block (a := ⟨TU, 2, none⟩) (HFAR.out TU HNE.out.1)).trans v2
        have z5 := (World.cell?_of_block (a := ⟨TU, 5, none⟩) (HFAR.out TU HNE.out.1)).trans v5
        have zd := (HFAR.out BG HNE.out.2).trans vd
        refine wpAnyH_ready (rs := [15]) (by kernel_rfl) (by simp) ?_
        refine AllReadyH.cons rfl (fun K hK => ?_) AllReadyH.nil
        go_simp
        rw [← hWX]
        refine hK.out _ _ ⟨z0, z1, z2, z5, zd⟩ (fun hHeld => ?_)
        clear hK K
        refine wpAnyH_done (by kernel_rfl) ?_ _
        go_wp2_with fail
        refine bodyPost_ret (results_cell_row rfl _ _ w.heap.size 43 _ _ _ rfl HC.out Tryd.underlying43 rfl (by kernel_rfl)) rfl ?_
        exact ⟨by rw [HBS.out, HBN.out.2], ⟨_, HKF.out.2⟩, HKF.out.1⟩

end Go.Proofs.YtblmbbllfiigmaaDoor
