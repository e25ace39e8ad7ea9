/-
  The reference's buffer of pieces, walked: pushed.
-/
import Derived.Test.YtblmbbllfiigmaaDoorSpc
import Derived.Test.YtblmbbllfiigmaaDoorPcs
import Derived.Deep.RegionHeld
namespace Go.Proofs.YtblmbbllfiigmaaDoor
open Go.RowKit Go.Proofs.YtblmbbllfiigmaaDoorW.PrintWords Go.Proofs.YtblmbbllfiigmaaDoorW.PrintLast Go.Proofs.YtblmbbllfiigmaaDoorW.PrintMore PAll

/-- Blocks of other kinds, and all that was there at the beginning, are as they were. -/
structure KeepS (base : Nat) (w w' : World) : Prop where
  below : Below base w w'
  kind : ∀ (k : Nat) (c : Array Value) (t : TypeId) (m : Nat × Nat), w.heap[k]? = some (.cells c t m) → t ≠ 72 → t ≠ 68 → w'.heap[k]? = w.heap[k]?
theorem KeepS.trans {base : Nat} {a b c : World} (h : KeepS base a b) (k : KeepS base b c) : KeepS base a c :=
  ⟨h.below.trans k.below, fun i x t m hi h1 h2 => by
    have e := h.kind i x t m hi h1 h2
    exact (k.kind i x t m (e.trans hi) h1 h2).trans e⟩
theorem KeepS.of_below {base : Nat} {w w' : World} (hb : base ≤ w.heap.size) (h : Below w.heap.size w w') : KeepS base w w' :=
  ⟨h.mono hb, fun k _ _ _ hk _ _ => h.block k (ltB hk)⟩

theorem SpB.set {w : World} {base G : Nat} {v : Value} {l : List S68} {nx : Int} (h : SpB w base G v l nx) {b t : Nat} {cells : Array Value} (hb : w.heap[b]? = some (.cells cells t (0, 0))) (h72 : t ≠ 72) (h68 : t ≠ 68) (j : Nat) (u : Value) : SpB (w.setCell ⟨b, j, none⟩ u) base G v l nx :=
  ⟨(Below.heap_setCell w ⟨b, j, none⟩ u G (cellsNe h.blk hb (fun e => h72 e.symm))).trans h.blk, Kd.R_set h.row hb (fun q hq => by
    have : q = 68 := by simpa [k68, Kd.iso, Kd.pair, Kd.int, Kd.string, Kd.scalar] using hq
    omega) j u⟩
theorem SpB.drew {w : World} {base G : Nat} {v : Value} {l : List S68} {nx : Int} (h : SpB w base G v l nx) : SpB w.drew base G v l nx := ⟨h.blk, Kd.R_drew h.row⟩
theorem KeepS.set {base : Nat} {w wr : World} (h : KeepS base w wr) {b : Nat} (hb : base ≤ b) (hw : w.heap.size ≤ b) (j : Nat) (u : Value) : KeepS base w (wr.setCell ⟨b, j, none⟩ u) := by
  have ne : ∀ k, k ≠ b → (wr.setCell ⟨b, j, none⟩ u).heap[k]? = wr.heap[k]? := fun k hk => Below.heap_setCell wr ⟨b, j, none⟩ u k hk
  refine ⟨⟨h.below.os, h.below.tape, h.below.output, by simpa [World.setCell] using h.below.size, fun k hk => (ne k (by omega)).trans (h.below.block k hk)⟩, fun k c t m hk h1 h2 => (ne k (by have := ltB hk; omega)).trans (h.kind k c t m hk h1 h2)⟩
theorem KeepS.set72 {base : Nat} {w wr : World} (h : KeepS base w wr) {b : Nat} (hb : base ≤ b) {cells : Array Value} (h72 : wr.heap[b]? = some (.cells cells 72)) (j : Nat) (u : Value) : KeepS base w (wr.setCell ⟨b, j, none⟩ u) := by
  have ne : ∀ k, k ≠ b → (wr.setCell ⟨b, j, none⟩ u).heap[k]? = wr.heap[k]? := fun k hk => Below.heap_setCell wr ⟨b, j, none⟩ u k hk
  refine ⟨⟨h.below.os, h.below.tape, h.below.output, by simpa [World.setCell] using h.below.size, fun k hk => (ne k (by omega)).trans (h.below.block k hk)⟩, fun k c t m hk h1 h2 => (ne k (fun e => ?_)).trans (h.kind k c t m hk h1 h2)⟩
  have h3 := h.kind k c t m hk h1 h2
  rw [e, h72, ← e, hk] at h3
  injection h3 with h3
  injection h3 with _ h3
  exact h1 h3.symm
theorem KeepS.grown {base : Nat} {w wr w7 : World} (h : KeepS base w wr) {v : Value} {l : List S68} (hr : Kd.R k68 68 wr base (fun _ => True) v l) (hg : wr.grownBy w7 v.ownBlock) (hb : Below base w w7) : KeepS base w w7 :=
  ⟨hb, fun k c t m hk h1 h2 => by
    have h3 := h.kind k c t m hk h1 h2
    refine (hg.block k (ltB (h3.trans hk)) (fun e => ?_)).trans h3
    obtain ⟨inner, ho⟩ := Kd.R_own hr
    obtain ⟨cc, hc⟩ := own_typed ho k e.symm
    rw [h3, hk] at hc
    injection hc with hc
    injection hc with _ hc
    exact h2 hc⟩
theorem KeepS.drew {base : Nat} {w wr : World} (h : KeepS base w wr) : KeepS base w wr.drew := ⟨below_drew1 h.below, h.kind⟩

/-- What a push tells, and what it leaves. -/
def againS (nx : Int) (g : Frag) : Bool := decide ((g.seq : Int) < nx) && decide (g.off = 0)
def pushS (nx : Int) (l : List S68) (g : Frag) : List S68 := if (g.seq : Int) < nx then l else l ++ [pcOf g]
structure PushPost (base G : Nat) (l : List S68) (nx : Int) (g : Frag) (w : World) (e : Ending) (w' : World) : Prop where
  ret : e = .returned (.agg #[.bool true, .bool (againS nx g), .bool false, .bool false, .string ⟨#[]⟩, .int .u16 0, .int .i64 0])
  buf : ∃ v', SpB w' base G v' (pushS nx l g) nx
  keep : KeepS base w w'

set_option linter.unusedSimpArgs false in
set_option linter.unusedVariables false in
set_option maxRecDepth 100000 in
set_option maxHeartbeats 4000000 in
theorem pushed_any (base G : Nat) (v : Value) (l : List S68) (nx : Int) (i : Nat) (g : Frag) (w : World) (hs : SpB w base G v l nx) (hn : l.length ≤ 1000000) (hG : base ≤ G) (hbw : base ≤ w.heap.size) (hf : FitsF g) (hb : ∀ x ∈ g.dat, 0 ≤ x ∧ x < 256) (hl : g.dat.length ≤ 1000) :
    Calls Tryd.prog 28 #[.pointer (some ⟨G, 0, none⟩), .string (strOfNums (recN i (enc g)))] w (PushPost base G l nx g w) := by
  have HBW := Aside0.mk hbw
  have HS := Aside0.mk hs
  have HN := Aside0.mk hn
  have HP := fun W => pieces_any i g W hf hb hl
  have HPA := Aside0.mk HP
  have HFIT := Aside0.mk hf
  have hbt : bt (strOfNums (recN i (enc g))) 0 = 22 := by
    rw [← rd_bytesOf, bytes_str _ (rec_byt i _ (enc_byt g hf.typ hb))]
    rfl
  have hsz : (strOfNums (recN i (enc g))).size = 25 + g.dat.length := by rw [strOfNums_size, rec_len, enc_len]; omega
  have h0 : 0 < (strOfNums (recN i (enc g))).size := by omega
  have h22 : ((((strOfNums (recN i (enc g)))[0]'h0).toNat : Int) != 22) = false := by
    unfold bt at hbt
    simp [h0] at hbt
    simp [hbt]
  clear hs hn HP hf hb hl hbt hsz
  generalize strOfNums (recN i (enc g)) = RS at *
  go_enter Tryd.func28, Tryd.ntmps28
  go_upto_region 3 with fail
  have HB1 : Aside0 (Below w.heap.size w (w.alloc (.cells #[.bool false, .bool false, .bool false, .bool false, .string ⟨#[]⟩, .int .u16 0, .int .i64 0] 43))) := ⟨below_alloc (Below.refl _ w) _⟩
  have HT1 : Aside0 ((w.alloc (.cells #[.bool false, .bool false, .bool false, .bool false, .string ⟨#[]⟩, .int .u16 0, .int .i64 0] 43)).heap[w.heap.size]? = some (.cells #[.bool false, .bool false, .bool false, .bool false, .string ⟨#[]⟩, .int .u16 0, .int .i64 0] 43)) := ⟨blk_new w _⟩
  have HS1 := Aside0.mk (HS.out.below HB1.out)
  clear HS
  generalize w.alloc (.cells #[.bool false, .bool false, .bool false, .bool false, .string ⟨#[]⟩, .int .u16 0, .int .i64 0] 43) = W1 at *
  go_wp2_with fail
  refine (HPA.out W1).mono ?_
  rintro e W2 ⟨v0, rfl, hr, hb⟩
  have HB2 := Aside0.mk (below_then HB1.out HB1.out.size hb)
  have HT2 := Aside0.mk ((hb.block w.heap.size (ltB HT1.out)).trans HT1.out)
  have HS2 := Aside0.mk (HS1.out.below hb)
  have HR2 := Aside0.mk hr
  have HVL : Aside0 (∀ k, v.ownBlock = some k → k < W1.heap.size) := ⟨fun k hk => Kd.R_lt HS1.out.row k hk⟩
  clear hr hb HB1 HT1 HS1 HPA
  go_upto_region 5 with fail
  have hb : Below W2.heap.size W2 (W2.alloc (.cells #[.bool true, .bool false, .bool false, .bool false, .string ⟨#[]⟩, .int .u16 0, .int .i64 0] 43)) := below_alloc (Below.refl _ W2) _
  have HB3 := Aside0.mk (below_then HB2.out HB2.out.size hb)
  have HT3 := Aside0.mk ((hb.block w.heap.size (ltB HT2.out)).trans HT2.out)
  have HS3 := Aside0.mk (HS2.out.below hb)
  have HR3 := Aside0.mk (Kd.R_below HR2.out hb)
  have HU3 := Aside0.mk (blk_new W2 (.cells #[.bool true, .bool false, .bool false, .bool false, .string ⟨#[]⟩, .int .u16 0, .int .i64 0] 43))
  have HTU : Aside0 (w.heap.size < W2.heap.size) := ⟨ltB HT2.out⟩
  clear hb HB2 HT2 HS2 HR2
  generalize W2.alloc (.cells #[.bool true, .bool false, .bool false, .bool false, .string ⟨#[]⟩, .int .u16 0, .int .i64 0] 43) = W3 at *
  obtain ⟨A0, c0, hv0⟩ := Kd.R_slice HR3.out
  subst hv0
  generalize W2.heap.size = TU at *
  go_wp2_with fail
  go_loopg [8] 1 (fun kq v8 wr => ∃ (v1 : Value), v8 = .int .i64 (if kq = 1 then 0 else 1) ∧ Aside0 (kq ≤ 1) ∧ Aside0 (SpB wr base G v1 (if kq = 1 then l else pushS nx l g) nx) ∧ Aside0 (wr.heap[TU]? = some (.cells #[.bool true, .bool (if kq = 1 then false else againS nx g), .bool false, .bool false, .string ⟨#[]⟩, .int .u16 0, .int .i64 0] 43)) ∧ Aside0 (wr.heap[w.heap.size]? = some (.cells #[.bool false, .bool false, .bool false, .bool false, .string ⟨#[]⟩, .int .u16 0, .int .i64 0] 43)) ∧ Aside0 (KeepS base w wr) ∧ (kq = 1 → Aside0 (Kd.R k68 68 wr W1.heap.size (fun _ => True) (.slice A0 [pcOf g].length c0) [pcOf g]) ∧ v1 = v))
  case atStart => exact ⟨_, rfl, ⟨Nat.le_refl _⟩, HS3, HU3, HT3, ⟨KeepS.of_below hbw HB3.out⟩, fun _ => ⟨HR3, rfl⟩⟩
  case round =>
    clear HS3 HU3 HT3 HR3 HB3 hbw
    obtain ⟨v1, rfl, HK, HS, HU, HT, HKS, hA⟩ := hrel
    cases gk with
    | zero =>
      simp only [Nat.zero_ne_one, if_false] at HS HU
      clear hA
      obtain ⟨AG, hAG⟩ : ∃ AG, AG = againS nx g := ⟨_, rfl⟩
      rw [← hAG] at HU
      have HAG := Aside0.mk hAG
      clear hAG
      have u0 : wr.cell? ⟨TU, 0, none⟩ = some (.bool true) := (blk_cell HU.out 0).trans rfl
      have u1 : wr.cell? ⟨TU, 1, none⟩ = some (.bool AG) := (blk_cell HU.out 1).trans rfl
      have u2 : wr.cell? ⟨TU, 2, none⟩ = some (.bool false) := (blk_cell HU.out 2).trans rfl
      have u3 : wr.cell? ⟨TU, 3, none⟩ = some (.bool false) := (blk_cell HU.out 3).trans rfl
      have u4 : wr.cell? ⟨TU, 4, none⟩ = some (.string ⟨#[]⟩) := (blk_cell HU.out 4).trans rfl
      have u5 : wr.cell? ⟨TU, 5, none⟩ = some (.int .u16 0) := (blk_cell HU.out 5).trans rfl
      have u6 : wr.cell? ⟨TU, 6, none⟩ = some (.int .i64 0) := (blk_cell HU.out 6).trans rfl
      have t0 : wr.cell? ⟨w.heap.size, 0, none⟩ = some (.bool false) := (blk_cell HT.out 0).trans rfl
      have t1 : wr.cell? ⟨w.heap.size, 1, none⟩ = some (.bool false) := (blk_cell HT.out 1).trans rfl
      have t2 : wr.cell? ⟨w.heap.size, 2, none⟩ = some (.bool false) := (blk_cell HT.out 2).trans rfl
      have t3 : wr.cell? ⟨w.heap.size, 3, none⟩ = some (.bool false) := (blk_cell HT.out 3).trans rfl
      have t4 : wr.cell? ⟨w.heap.size, 4, none⟩ = some (.string ⟨#[]⟩) := (blk_cell HT.out 4).trans rfl
      have t5 : wr.cell? ⟨w.heap.size, 5, none⟩ = some (.int .u16 0) := (blk_cell HT.out 5).trans rfl
      have t6 : wr.cell? ⟨w.heap.size, 6, none⟩ = some (.int .i64 0) := (blk_cell HT.out 6).trans rfl
      have tf := fun j => blk_frozen HT.out j
      have HC : Aside0 ((((((((wr.setCell ⟨w.heap.size, 0, none⟩ (.bool true)).setCell ⟨w.heap.size, 1, none⟩ (.bool AG)).setCell ⟨w.heap.size, 2, none⟩ (.bool false)).setCell ⟨w.heap.size, 3, none⟩ (.bool false)).setCell ⟨w.heap.size, 4, none⟩ (.string ⟨#[]⟩)).setCell ⟨w.heap.size, 5, none⟩ (.int .u16 0)).setCell ⟨w.heap.size, 6, none⟩ (.int .i64 0)).heap[w.heap.size]? = some (.cells #[.bool true, .bool AG, .bool false, .bool false, .string ⟨#[]⟩, .int .u16 0, .int .i64 0] 43)) := ⟨by
        have h := (blk_set (blk_set (blk_set (blk_set (blk_set (blk_set (blk_set HT.out 0 (.bool true)) 1 (.bool AG)) 2 (.bool false)) 3 (.bool false)) 4 (.string ⟨#[]⟩)) 5 (.int .u16 0)) 6 (.int .i64 0))
        simpa using h⟩
      have HKF : Aside0 (KeepS base w (((((((wr.setCell ⟨w.heap.size, 0, none⟩ (.bool true)).setCell ⟨w.heap.size, 1, none⟩ (.bool AG)).setCell ⟨w.heap.size, 2, none⟩ (.bool false)).setCell ⟨w.heap.size, 3, none⟩ (.bool false)).setCell ⟨w.heap.size, 4, none⟩ (.string ⟨#[]⟩)).setCell ⟨w.heap.size, 5, none⟩ (.int .u16 0)).setCell ⟨w.heap.size, 6, none⟩ (.int .i64 0)) ∧ SpB (((((((wr.setCell ⟨w.heap.size, 0, none⟩ (.bool true)).setCell ⟨w.heap.size, 1, none⟩ (.bool AG)).setCell ⟨w.heap.size, 2, none⟩ (.bool false)).setCell ⟨w.heap.size, 3, none⟩ (.bool false)).setCell ⟨w.heap.size, 4, none⟩ (.string ⟨#[]⟩)).setCell ⟨w.heap.size, 5, none⟩ (.int .u16 0)).setCell ⟨w.heap.size, 6, none⟩ (.int .i64 0)) base G v1 (pushS nx l g) nx) := ⟨by
        have hle := HBW.out
        have e0 := blk_set HT.out 0 (.bool true)
        have e1 := blk_set e0 1 (.bool AG)
        have e2 := blk_set e1 2 (.bool false)
        have e3 := blk_set e2 3 (.bool false)
        have e4 := blk_set e3 4 (.string ⟨#[]⟩)
        have e5 := blk_set e4 5 (.int .u16 0)
        exact ⟨((((((HKS.out.set hle (Nat.le_refl _) 0 _).set hle (Nat.le_refl _) 1 _).set hle (Nat.le_refl _) 2 _).set hle (Nat.le_refl _) 3 _).set hle (Nat.le_refl _) 4 _).set hle (Nat.le_refl _) 5 _).set hle (Nat.le_refl _) 6 _, ((((((HS.out.set HT.out (by decide) (by decide) 0 _).set e0 (by decide) (by decide) 1 _).set e1 (by decide) (by decide) 2 _).set e2 (by decide) (by decide) 3 _).set e3 (by decide) (by decide) 4 _).set e4 (by decide) (by decide) 5 _).set e5 (by decide) (by decide) 6 _⟩⟩
      have htu := HTU.out
      go_wp2_with fail
      refine bodyPost_ret (results_cell_row rfl _ _ w.heap.size 43 _ _ _ rfl HC.out Tryd.underlying43 rfl (by kernel_rfl)) rfl ?_
      exact ⟨by rw [← HAG.out], ⟨v1, HKF.out.2⟩, HKF.out.1⟩
    | succ k1 =>
      obtain rfl : k1 = 0 := by have := HK.out; omega
      obtain ⟨HR, hv1⟩ := hA rfl
      subst hv1
      clear hA
      simp only [Nat.zero_add, if_true] at HS HU
      obtain ⟨A, c, hv⟩ := Kd.R_slice HS.out.row
      subst hv
      obtain ⟨b0, cap, eo, hb0, hbl, cells0, hbc⟩ := Kd.R_form HR.out (by simp)
      injection eo with e1 _ e3
      subst e1 e3
      obtain ⟨ad, hA, x0, x1, x2, x3, x4, x5⟩ := at_T68 (Kd.R_reads' HR.out).2.2 (0 : Int) (by omega) (by simp)
      injection hA with hA
      subst hA
      have hx : rd_T68 [pcOf g] 0 = pcOf g := rfl
      rw [hx] at x0 x1 x2 x3 x4 x5
      simp only [pcOf, Int.toNat_zero, Nat.zero_mul, add_plain, Nat.zero_add] at x0 x1 x2 x3 x4 x5
      have HBC := Aside0.mk hbc
      have hbG : b0 ≠ G := by
        rintro rfl
        have h := HS.out.blk
        rw [hbc] at h
        injection h with h
        injection h with _ h
        exact absurd h (by decide)
      clear hbc hx
      have g0 : wr.cell? ⟨G, 0, none⟩ = some (.slice A l.length c) := cellB HS.out.blk 0
      have g1 : wr.cell? ⟨G, 1, none⟩ = some (.int .i64 nx) := cellB HS.out.blk 1
      go_upto_region 8 with fail
      go_region
      have u1 : wr.cell? ⟨TU, 1, none⟩ = some (.bool false) := (blk_cell HU.out 1).trans rfl
      have uf := fun j => blk_frozen HU.out j
      by_cases hold : (g.seq : Int) < nx
      · have hd : decide ((g.seq : Int) < nx) = true := decide_eq_true hold
        have HAG : Aside0 (againS nx g = ((g.off : Int) == 0)) := ⟨by
          unfold againS
          rw [hd, Bool.true_and]
          by_cases h : g.off = 0
          · simp [h]
          · have : ((g.off : Int) == 0) = false := by simp; omega
            rw [this]; simp [h]⟩
        have HPS : Aside0 (pushS nx l g = l) := ⟨by unfold pushS; rw [if_pos hold]⟩
        clear hold
        go_wp2_with fail
        go_roundg 0
        case measure => omega
        case rel =>
          refine ⟨.slice A l.length c, rfl, ⟨Nat.zero_le _⟩, ⟨?_⟩, ⟨?_⟩, ⟨?_⟩, ⟨?_⟩, fun h => by cases h⟩
          · rw [if_neg (by decide), HPS.out]
            exact (HS.out.set HU.out (by decide) (by decide) 1 _).drew
          · rw [if_neg (by decide), HAG.out]
            have h := blk_set HU.out 1 (.bool ((g.off : Int) == 0))
            show (wr.setCell ⟨TU, 1, none⟩ (.bool ((g.off : Int) == 0))).heap[TU]? = _
            simpa using h
          · exact (Below.heap_setCell wr ⟨TU, 1, none⟩ _ w.heap.size (by have := HTU.out; simp only; omega)).trans HT.out
          · exact (HKS.out.set (by have := HTU.out; have := HBW.out; omega) (by have := HTU.out; omega) 1 _).drew
      · have hd : decide ((g.seq : Int) < nx) = false := decide_eq_false hold
        have HAG : Aside0 (againS nx g = false) := ⟨by unfold againS; rw [hd]; rfl⟩
        have HPS : Aside0 (pushS nx l g = l ++ [pcOf g]) := ⟨by unfold pushS; rw [if_neg hold]⟩
        clear hold
        go_upto_region 11 with fail
        have HS5 := Aside0.mk (HS.out.set HU.out (by decide) (by decide) 1 (.bool false)).drew
        have HU5 : Aside0 ((wr.setCell ⟨TU, 1, none⟩ (.bool false)).drew.heap[TU]? = some (.cells #[.bool true, .bool false, .bool false, .bool false, .string ⟨#[]⟩, .int .u16 0, .int .i64 0] 43)) := ⟨by
          have h := blk_set HU.out 1 (.bool false)
          show (wr.setCell ⟨TU, 1, none⟩ (.bool false)).heap[TU]? = _
          simpa using h⟩
        have HT5 : Aside0 ((wr.setCell ⟨TU, 1, none⟩ (.bool false)).drew.heap[w.heap.size]? = some (.cells #[.bool false, .bool false, .bool false, .bool false, .string ⟨#[]⟩, .int .u16 0, .int .i64 0] 43)) := ⟨(Below.heap_setCell wr ⟨TU, 1, none⟩ _ w.heap.size (by have := HTU.out; simp only; omega)).trans HT.out⟩
        have HK5 := Aside0.mk (HKS.out.set (b := TU) (by have := HTU.out; have := HBW.out; omega) (by have := HTU.out; omega) 1 (.bool false)).drew
        have hbT : b0 ≠ TU := by
          rintro rfl
          have h := HU.out
          rw [HBC.out] at h
          injection h with h
          injection h with _ h
          exact absurd h (by decide)
        have mv : ∀ k, (wr.setCell ⟨TU, 1, none⟩ (.bool false)).drew.cell? ⟨b0, k, none⟩ = wr.cell? ⟨b0, k, none⟩ := fun k => World.cell?_of_block (a := ⟨b0, k, none⟩) (Below.heap_setCell wr ⟨TU, 1, none⟩ _ b0 hbT)
        replace x0 := (mv _).trans x0
        replace x1 := (mv _).trans x1
        replace x2 := (mv _).trans x2
        replace x3 := (mv _).trans x3
        replace x4 := (mv _).trans x4
        replace x5 := (mv _).trans x5
        have HBS5 : Aside0 (base ≤ (wr.setCell ⟨TU, 1, none⟩ (.bool false)).drew.heap.size) := ⟨Nat.le_trans HBW.out HK5.out.below.size⟩
        have HBL : Aside0 (b0 < (wr.setCell ⟨TU, 1, none⟩ (.bool false)).drew.heap.size) := ⟨by simpa [World.setCell, World.drew] using hbl⟩
        clear g0 g1 u1 uf mv hbT HS HU HT HKS HR hbl
        generalize (wr.setCell ⟨TU, 1, none⟩ (.bool false)).drew = W5 at *
        have g0 : W5.cell? ⟨G, 0, none⟩ = some (.slice A l.length c) := cellB HS5.out.blk 0
        have gf := fun j => frozB HS5.out.blk j
        have hbl := HBL.out
        have hgl := ltB HS5.out.blk
        have hbA : some b0 ≠ (Value.slice A l.length c).ownBlock := fun e => by have := HVL.out b0 e.symm; omega
        have HB6 := Aside0.mk (below_alloc (below_drew1 (Below.refl W5.heap.size W5)) (.cells #[.int .u8 g.typ, .int .i64 g.len, .int .i64 g.seq, .int .i64 g.off, .string (strOfNums g.dat), .int .u16 0] 68))
        have n0 := pw_cell_below HB6.out x0
        have n1 := pw_cell_below HB6.out x1
        have n2 := pw_cell_below HB6.out x2
        have n3 := pw_cell_below HB6.out x3
        have n4 := pw_cell_below HB6.out x4
        have n5 := pw_cell_below HB6.out x5
        have ng := pw_cell_below HB6.out g0
        refine wp_region_held_drew (S := fun w' => w'.cell? ⟨b0, 0, none⟩ = some (.int .u8 g.typ) ∧ w'.cell? ⟨b0, 1, none⟩ = some (.int .i64 g.len) ∧ w'.cell? ⟨b0, 2, none⟩ = some (.int .i64 g.seq) ∧ w'.cell? ⟨b0, 3, none⟩ = some (.int .i64 g.off) ∧ w'.cell? ⟨b0, 4, none⟩ = some (.string (strOfNums g.dat)) ∧ w'.cell? ⟨b0, 5, none⟩ = some (.int .u16 0)) (by kernel_rfl) ⟨x0, x1, x2, x3, x4, x5⟩ (fun hHeld => ?_)
        refine wpAnyH_take (i := 0) (v := ?v0) rfl (by kernel_rfl) (by kernel_rfl) (by kernel_rfl) (fun _ _ _ h => h) (Or.inl ⟨by rfl, ?h0⟩) (by assumption) ?r0
        case h0 => intro w hSw; (try dsimp only at hSw); go_simp; (try with_reducible rfl)
        try simp only [Act.put, List.setIfInBounds_toArray, List.set_cons_zero, List.set_cons_succ]
        refine wpAnyH_take (i := 1) (v := ?v1) rfl (by kernel_rfl) (by kernel_rfl) (by kernel_rfl) (fun _ _ _ h => h) (Or.inl ⟨by rfl, ?h1⟩) (by assumption) ?r1
        case h1 => intro w hSw; (try dsimp only at hSw); go_simp; (try with_reducible rfl)
        try simp only [Act.put, List.setIfInBounds_toArray, List.set_cons_zero, List.set_cons_succ]
        refine wpAnyH_take (i := 2) (v := ?v2) rfl (by kernel_rfl) (by kernel_rfl) (by kernel_rfl) (fun _ _ _ h => h) (Or.inl ⟨by rfl, ?h2⟩) (by assumption) ?r2
        case h2 => intro w hSw; (try dsimp only at hSw); go_simp; (try with_reducible rfl)
        try simp only [Act.put, List.setIfInBounds_toArray, List.set_cons_zero, List.set_cons_succ]
        refine wpAnyH_take (i := 3) (v := ?v3) rfl (by kernel_rfl) (by kernel_rfl) (by kernel_rfl) (fun _ _ _ h => h) (Or.inl ⟨by rfl, ?h3⟩) (by assumption) ?r3
        case h3 => intro w hSw; (try dsimp only at hSw); go_simp; (try with_reducible rfl)
        try simp only [Act.put, List.setIfInBounds_toArray, List.set_cons_zero, List.set_cons_succ]
        refine wpAnyH_take (i := 5) (v := ?v5) rfl (by kernel_rfl) (by kernel_rfl) (by kernel_rfl) (fun _ _ _ h => h) (Or.inl ⟨by rfl, ?h5⟩) (by assumption) ?r5
        case h5 => intro w hSw; (try dsimp only at hSw); go_simp; (try with_reducible rfl)
        try simp only [Act.put, List.setIfInBounds_toArray, List.set_cons_zero, List.set_cons_succ]
        refine wpAnyH_take (i := 6) (v := ?v6) rfl (by kernel_rfl) (by kernel_rfl) (by kernel_rfl) (fun _ _ _ h => h) (Or.inl ⟨by rfl, ?h6⟩) (by assumption) ?r6
        case h6 => intro w hSw; (try dsimp only at hSw); go_simp; (try with_reducible rfl)
        try simp only [Act.put, List.setIfInBounds_toArray, List.set_cons_zero, List.set_cons_succ]
        refine wpAnyH_take (i := 7) (v := ?v7) rfl (by kernel_rfl) (by kernel_rfl) (by kernel_rfl) (fun _ _ _ h => h) (Or.inl ⟨by rfl, ?h7⟩) (by assumption) ?r7
        case h7 => intro w hSw; (try dsimp only at hSw); go_simp; (try with_reducible rfl)
        try simp only [Act.put, List.setIfInBounds_toArray, List.set_cons_zero, List.set_cons_succ]
        refine wpAnyH_take (i := 8) (v := ?v8) rfl (by kernel_rfl) (by kernel_rfl) (by kernel_rfl) (fun _ _ _ h => h) (Or.inl ⟨by rfl, ?h8⟩) (by assumption) ?r8
        case h8 => intro w hSw; (try dsimp only at hSw); go_simp; (try with_reducible rfl)
        try simp only [Act.put, List.setIfInBounds_toArray, List.set_cons_zero, List.set_cons_succ]
        refine wpAnyH_ready (rs := [4, 9]) (by kernel_rfl) (by simp) ?_
        refine AllReadyH.cons rfl (fun K hK => ?_) (AllReadyH.cons rfl (fun K hK => ?_) AllReadyH.nil)
        · go_simp
          refine hK.out _ _ ⟨x0, x1, x2, x3, x4, x5⟩ (fun hHeld => ?_)
          clear hK K
          refine wpAnyH_ready (rs := [9]) (by kernel_rfl) (by simp) ?_
          refine AllReadyH.cons rfl (fun K hK => ?_) AllReadyH.nil
          go_simp
          refine hK.out _ _ ⟨n0, n1, n2, n3, n4, n5⟩ (fun hHeld => ?_)
          clear hK K
          refine wpAnyH_ready (rs := [10]) (by kernel_rfl) (by simp) ?_
          refine AllReadyH.cons rfl (fun K hK => ?_) AllReadyH.nil
          refine Kd.R_append_step k68 (w0 := w) base (by kernel_rfl) (.tmp 52) (.tmp 57) 63 68 (.agg #[(.int .u8 0), (.int .i64 0), (.int .i64 0), (.int .i64 0), (.string ⟨#[]⟩), (.int .u16 0)]) 56 rfl Tryd.underlying63 info68 rfl (by decide) (by omega) (.slice A l.length c) l (pcOf g) [.int .u8 g.typ, .int .i64 g.len, .int .i64 g.seq, .int .i64 g.off, .string (strOfNums g.dat), .int .u16 0] (fun _ => True) (fun _ => False) rfl rfl (k68_mkM _ _ _ (pcOf g)) (fun _ hk => hk.elim) (fun _ _ => trivial) (Kd.R_drew HS5.out.row) (below_drew1 HK5.out.below) ?aS ?aL ?_
          case aS => exact HBS5.out
          case aL => have := HN.out; omega
          intro v7 w7 ho hb hg hat
          obtain ⟨A7, c7, hv7⟩ := Kd.R_slice ho
          rw [show (l ++ [pcOf g]).length = l.length + 1 from by simp] at hv7
          subst hv7
          have hgG : w7.heap[G]? = W5.heap[G]? := hg.block G hgl (Kd.R_ne HS5.out.row HS5.out.blk (by decide))
          have hgU : w7.heap[TU]? = W5.heap[TU]? := hg.block TU (ltB HU5.out) (Kd.R_ne HS5.out.row HU5.out (by decide))
          have hgT : w7.heap[w.heap.size]? = W5.heap[w.heap.size]? := hg.block _ (ltB HT5.out) (Kd.R_ne HS5.out.row HT5.out (by decide))
          have hgB : ∀ k, w7.cell? ⟨b0, k, none⟩ = W5.cell? ⟨b0, k, none⟩ := fun k => World.cell?_of_block (a := ⟨b0, k, none⟩) (hg.block b0 hbl hbA)
          have HG7 := Aside0.mk (hgG.trans HS5.out.blk)
          have HU7 := Aside0.mk (hgU.trans HU5.out)
          have HT7 := Aside0.mk (hgT.trans HT5.out)
          have HK7 := Aside0.mk (HK5.out.drew.grown (Kd.R_drew HS5.out.row) hg hb)
          have HO7 := Aside0.mk ho
          have m0 := (hgB _).trans x0
          have m1 := (hgB _).trans x1
          have m2 := (hgB _).trans x2
          have m3 := (hgB _).trans x3
          have m4 := (hgB _).trans x4
          have m5 := (hgB _).trans x5
          refine hK.out _ _ ⟨m0, m1, m2, m3, m4, m5⟩ (fun hHeld => ?_)
          clear hK K hgG hgU hgT hgB ho hb hg hat n0 n1 n2 n3 n4 n5 ng x0 x1 x2 x3 x4 x5 g0 gf
          refine wpAnyH_take (i := 11) (v := ?v11) rfl (by kernel_rfl) (by kernel_rfl) (by kernel_rfl) (fun _ _ _ h => h) (Or.inl ⟨by rfl, ?h11⟩) (by assumption) ?r11
          case h11 => intro w hSw; (try dsimp only at hSw); go_simp; (try with_reducible rfl)
          try simp only [Act.put, List.setIfInBounds_toArray, List.set_cons_zero, List.set_cons_succ]
          refine wpAnyH_take (i := 12) (v := ?v12) rfl (by kernel_rfl) (by kernel_rfl) (by kernel_rfl) (fun _ _ _ h => h) (Or.inl ⟨by rfl, ?h12⟩) (by assumption) ?r12
          case h12 => intro w hSw; (try dsimp only at hSw); go_simp; (try with_reducible rfl)
          try simp only [Act.put, List.setIfInBounds_toArray, List.set_cons_zero, List.set_cons_succ]
          have q0 : w7.cell? ⟨G, 0, none⟩ = some (.slice A l.length c) := cellB HG7.out 0
          have qf := fun j => frozB HG7.out j
          have mvB : ∀ k, (w7.setCell ⟨G, 0, none⟩ (.slice A7 (l.length + 1) c7)).cell? ⟨b0, k, none⟩ = w7.cell? ⟨b0, k, none⟩ := fun k => World.cell?_of_block (a := ⟨b0, k, none⟩) (Below.heap_setCell w7 ⟨G, 0, none⟩ (.slice A7 (l.length + 1) c7) b0 hbG)
          refine wpAnyH_ready (rs := [13]) (by kernel_rfl) (by simp) ?_
          refine AllReadyH.cons rfl (fun K hK => ?_) AllReadyH.nil
          go_simp
          refine hK.out _ _ ⟨(mvB _).trans m0, (mvB _).trans m1, (mvB _).trans m2, (mvB _).trans m3, (mvB _).trans m4, (mvB _).trans m5⟩ (fun hHeld => ?_)
          clear hK K
          refine wpAnyH_done (by kernel_rfl) ?_ _
          go_wp2_with fail
          go_roundg 0
          case measure => omega
          case rel =>
            refine ⟨.slice A7 (l.length + 1) c7, rfl, ⟨Nat.zero_le _⟩, ⟨?_⟩, ⟨?_⟩, ⟨?_⟩, ⟨?_⟩, fun h => by cases h⟩
            · rw [if_neg (by decide), HPS.out]
              exact ⟨blk_setL HG7.out 0 _, Kd.R_set HO7.out HG7.out (fun q hq => by
                have : q = 68 := by simpa [k68, Kd.iso, Kd.pair, Kd.int, Kd.string, Kd.scalar] using hq
                omega) 0 _⟩
            · rw [if_neg (by decide), HAG.out]
              exact (Below.heap_setCell w7 ⟨G, 0, none⟩ (.slice A7 (l.length + 1) c7) TU (cellsNe HU7.out HG7.out (by decide))).trans HU7.out
            · exact (Below.heap_setCell w7 ⟨G, 0, none⟩ (.slice A7 (l.length + 1) c7) _ (cellsNe HT7.out HG7.out (by decide))).trans HT7.out
            · exact HK7.out.set72 hG HG7.out 0 _
        · go_simp
          refine hK.out _ _ ⟨n0, n1, n2, n3, n4, n5⟩ (fun hHeld => ?_)
          clear hK K
          refine wpAnyH_ready (rs := [4]) (by kernel_rfl) (by simp) ?_
          refine AllReadyH.cons rfl (fun K hK => ?_) AllReadyH.nil
          go_simp
          refine hK.out _ _ ⟨n0, n1, n2, n3, n4, n5⟩ (fun hHeld => ?_)
          clear hK K
          refine wpAnyH_ready (rs := [10]) (by kernel_rfl) (by simp) ?_
          refine AllReadyH.cons rfl (fun K hK => ?_) AllReadyH.nil
          refine Kd.R_append_step k68 (w0 := w) base (by kernel_rfl) (.tmp 52) (.tmp 57) 63 68 (.agg #[(.int .u8 0), (.int .i64 0), (.int .i64 0), (.int .i64 0), (.string ⟨#[]⟩), (.int .u16 0)]) 56 rfl Tryd.underlying63 info68 rfl (by decide) (by omega) (.slice A l.length c) l (pcOf g) [.int .u8 g.typ, .int .i64 g.len, .int .i64 g.seq, .int .i64 g.off, .string (strOfNums g.dat), .int .u16 0] (fun _ => True) (fun _ => False) rfl rfl (k68_mkM _ _ _ (pcOf g)) (fun _ hk => hk.elim) (fun _ _ => trivial) (Kd.R_drew HS5.out.row) (below_drew1 HK5.out.below) ?aS ?aL ?_
          case aS => exact HBS5.out
          case aL => have := HN.out; omega
          intro v7 w7 ho hb hg hat
          obtain ⟨A7, c7, hv7⟩ := Kd.R_slice ho
          rw [show (l ++ [pcOf g]).length = l.length + 1 from by simp] at hv7
          subst hv7
          have hgG : w7.heap[G]? = W5.heap[G]? := hg.block G hgl (Kd.R_ne HS5.out.row HS5.out.blk (by decide))
          have hgU : w7.heap[TU]? = W5.heap[TU]? := hg.block TU (ltB HU5.out) (Kd.R_ne HS5.out.row HU5.out (by decide))
          have hgT : w7.heap[w.heap.size]? = W5.heap[w.heap.size]? := hg.block _ (ltB HT5.out) (Kd.R_ne HS5.out.row HT5.out (by decide))
          have hgB : ∀ k, w7.cell? ⟨b0, k, none⟩ = W5.cell? ⟨b0, k, none⟩ := fun k => World.cell?_of_block (a := ⟨b0, k, none⟩) (hg.block b0 hbl hbA)
          have HG7 := Aside0.mk (hgG.trans HS5.out.blk)
          have HU7 := Aside0.mk (hgU.trans HU5.out)
          have HT7 := Aside0.mk (hgT.trans HT5.out)
          have HK7 := Aside0.mk (HK5.out.drew.grown (Kd.R_drew HS5.out.row) hg hb)
          have HO7 := Aside0.mk ho
          have m0 := (hgB _).trans x0
          have m1 := (hgB _).trans x1
          have m2 := (hgB _).trans x2
          have m3 := (hgB _).trans x3
          have m4 := (hgB _).trans x4
          have m5 := (hgB _).trans x5
          refine hK.out _ _ ⟨m0, m1, m2, m3, m4, m5⟩ (fun hHeld => ?_)
          clear hK K hgG hgU hgT hgB ho hb hg hat n0 n1 n2 n3 n4 n5 ng x0 x1 x2 x3 x4 x5 g0 gf
          refine wpAnyH_take (i := 11) (v := ?v211) rfl (by kernel_rfl) (by kernel_rfl) (by kernel_rfl) (fun _ _ _ h => h) (Or.inl ⟨by rfl, ?h211⟩) (by assumption) ?r211
          case h211 => intro w hSw; (try dsimp only at hSw); go_simp; (try with_reducible rfl)
          try simp only [Act.put, List.setIfInBounds_toArray, List.set_cons_zero, List.set_cons_succ]
          refine wpAnyH_take (i := 12) (v := ?v212) rfl (by kernel_rfl) (by kernel_rfl) (by kernel_rfl) (fun _ _ _ h => h) (Or.inl ⟨by rfl, ?h212⟩) (by assumption) ?r212
          case h212 => intro w hSw; (try dsimp only at hSw); go_simp; (try with_reducible rfl)
          try simp only [Act.put, List.setIfInBounds_toArray, List.set_cons_zero, List.set_cons_succ]
          have q0 : w7.cell? ⟨G, 0, none⟩ = some (.slice A l.length c) := cellB HG7.out 0
          have qf := fun j => frozB HG7.out j
          have mvB : ∀ k, (w7.setCell ⟨G, 0, none⟩ (.slice A7 (l.length + 1) c7)).cell? ⟨b0, k, none⟩ = w7.cell? ⟨b0, k, none⟩ := fun k => World.cell?_of_block (a := ⟨b0, k, none⟩) (Below.heap_setCell w7 ⟨G, 0, none⟩ (.slice A7 (l.length + 1) c7) b0 hbG)
          refine wpAnyH_ready (rs := [13]) (by kernel_rfl) (by simp) ?_
          refine AllReadyH.cons rfl (fun K hK => ?_) AllReadyH.nil
          go_simp
          refine hK.out _ _ ⟨(mvB _).trans m0, (mvB _).trans m1, (mvB _).trans m2, (mvB _).trans m3, (mvB _).trans m4, (mvB _).trans m5⟩ (fun hHeld => ?_)
          clear hK K
          refine wpAnyH_done (by kernel_rfl) ?_ _
          go_wp2_with fail
          go_roundg 0
          case measure => omega
          case rel =>
            refine ⟨.slice A7 (l.length + 1) c7, rfl, ⟨Nat.zero_le _⟩, ⟨?_⟩, ⟨?_⟩, ⟨?_⟩, ⟨?_⟩, fun h => by cases h⟩
            · rw [if_neg (by decide), HPS.out]
              exact ⟨blk_setL HG7.out 0 _, Kd.R_set HO7.out HG7.out (fun q hq => by
                have : q = 68 := by simpa [k68, Kd.iso, Kd.pair, Kd.int, Kd.string, Kd.scalar] using hq
                omega) 0 _⟩
            · rw [if_neg (by decide), HAG.out]
              exact (Below.heap_setCell w7 ⟨G, 0, none⟩ (.slice A7 (l.length + 1) c7) TU (cellsNe HU7.out HG7.out (by decide))).trans HU7.out
            · exact (Below.heap_setCell w7 ⟨G, 0, none⟩ (.slice A7 (l.length + 1) c7) _ (cellsNe HT7.out HG7.out (by decide))).trans HT7.out
            · exact HK7.out.set72 hG HG7.out 0 _

end Go.Proofs.YtblmbbllfiigmaaDoor
