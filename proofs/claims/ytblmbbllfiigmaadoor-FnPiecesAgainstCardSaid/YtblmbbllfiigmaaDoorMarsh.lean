/-
  The handshake header's Marshal, walked.
-/
import Derived.Test.YtblmbbllfiigmaaDoorHead
import Derived.Laws.IdiomCopy
import Derived.Lib.VarintMem
import Derived.Lib.EndianMore
import Derived.Shelf.Bin.BEPutUint16
import Derived.Shelf.Bin.BEPutUint32
namespace Go.Proofs.YtblmbbllfiigmaaDoor
open Go.RowKit Go.Proofs.YtblmbbllfiigmaaDoorW.PrintWords Go.Proofs.YtblmbbllfiigmaaDoorW.PrintLast Go.Proofs.YtblmbbllfiigmaaDoorW.PrintMore

theorem be4 (v : Nat) : Lib.byteCells (Lib.beBytes 4 v) = [.int .u8 ((v / 16777216 % 256 : Nat) : Int), .int .u8 ((v / 65536 % 256 : Nat) : Int), .int .u8 ((v / 256 % 256 : Nat) : Int), .int .u8 ((v % 256 : Nat) : Int)] := by
  simp only [Lib.byteCells, Lib.beBytes, Lib.leBytes, Nat.div_div_eq_div_mul, List.reverse_cons, List.reverse_nil, List.nil_append, List.cons_append, List.map_cons, List.map_nil, Lib.toUInt8_mod]
theorem be2 (v : Nat) : Lib.byteCells (Lib.beBytes 2 v) = [.int .u8 ((v / 256 % 256 : Nat) : Int), .int .u8 ((v % 256 : Nat) : Int)] := by
  simp only [Lib.byteCells, Lib.beBytes, Lib.leBytes, List.reverse_cons, List.reverse_nil, List.nil_append, List.cons_append, List.map_cons, List.map_nil, Lib.toUInt8_mod]

theorem blk_setCells {g : Nat} {e : TypeId} : ∀ (vs : List Value) (o : Nat) (l : List Value) (w : World), w.heap[g]? = some (.cells l.toArray e) → o + vs.length ≤ l.length → (w.setCells g o vs).heap[g]? = some (.cells (splice l o vs).toArray e)
  | [], o, l, w, h, hl => by
    rw [World.setCells, h]
    simp [splice]
  | v :: r, o, l, w, h, hl => by
    have hl2 : o + 1 + r.length ≤ (l.set o v).length := by simp at hl ⊢; omega
    rw [World.setCells, blk_setCells r (o + 1) (l.set o v) _ (blk_setL h o v) hl2]
    congr 3
    simp only [List.length_cons] at hl
    apply List.ext_getElem?
    intro i
    simp only [splice, List.getElem?_append, List.length_take, List.length_set, List.getElem?_take, List.getElem?_drop, List.length_cons]
    rw [Nat.min_eq_left (by omega), Nat.min_eq_left (by omega)]
    by_cases h1 : i < o
    · rw [if_pos (by omega), if_pos (by omega), if_pos h1, if_pos h1, List.getElem?_set_ne (by omega)]
    · by_cases h2 : i = o
      · subst h2
        rw [if_pos (by omega), if_pos (by omega), if_neg (by omega), if_pos (by omega), List.getElem?_set_self (by omega)]
        simp
      · obtain ⟨k, rfl⟩ : ∃ k, i = o + 1 + k := ⟨i - (o + 1), by omega⟩
        rw [if_neg (show ¬ o + 1 + k < o + 1 by omega), if_neg (show ¬ o + 1 + k < o by omega), show o + 1 + k - (o + 1) = k by omega, show o + 1 + k - o = k + 1 by omega]
        by_cases h3 : k < r.length
        · rw [if_pos h3, if_pos (show k + 1 < r.length + 1 by omega), List.getElem?_cons_succ]
        · rw [if_neg h3, if_neg (show ¬ k + 1 < r.length + 1 by omega), List.getElem?_set_ne (by omega)]
          congr 1
          omega

def c24 (v : Nat) : List Value := [.int .u8 ((v / 65536 % 256 : Nat) : Int), .int .u8 ((v / 256 % 256 : Nat) : Int), .int .u8 ((v % 256 : Nat) : Int)]

set_option maxRecDepth 100000 in
set_option maxHeartbeats 1000000 in
theorem put24_any (g o n c v B : Nat) (hv : v < 16777216) (cur : List Value) (w : World) (hg : w.heap[g]? = some (.cells cur.toArray 5)) (h3 : 3 ≤ n) (hfit : o + 3 ≤ cur.length) (hB : B ≤ g) :
    Calls Tryd.prog 55 #[.slice (some ⟨g, o, none⟩) n c, .int .u32 v] w fun e w' => e = .returned (.tuple #[]) ∧ Below B w w' ∧ w'.heap[g]? = some (.cells (splice cur o (c24 v)).toArray 5) := by
  have hlt := ltB hg
  have m4 := mk4 w
  have HG := Aside0.mk hg
  have HB := Aside0.mk hB
  have HLT := Aside0.mk hlt
  have HF := Aside0.mk hfit
  have H3 := Aside0.mk h3
  clear hg hB hlt hfit h3
  go_enter Tryd.func55, Tryd.ntmps55
  go_upto_region 1 with fail
  have HG4 : Aside0 ((w.alloc (.cells #[.int .u8 0, .int .u8 0, .int .u8 0, .int .u8 0] 5)).heap[w.heap.size]? = some (.cells [.int .u8 0, .int .u8 0, .int .u8 0, .int .u8 0].toArray 5)) := ⟨blk_new w _⟩
  have HBA : Aside0 (Below w.heap.size w (w.alloc (.cells #[.int .u8 0, .int .u8 0, .int .u8 0, .int .u8 0] 5))) := ⟨below_alloc (Below.refl _ w) _⟩
  clear m4
  generalize w.alloc (.cells #[.int .u8 0, .int .u8 0, .int .u8 0, .int .u8 0] 5) = w1 at *
  go_wp2_with fail
  refine (Any.binary_BE_PutUint32 Tryd.put32 w.heap.size 0 4 4 v (by omega) (.int .u8 0) (.int .u8 0) (.int .u8 0) (.int .u8 0) w1 (by omega) (cellB HG4.out 0) (cellB HG4.out 1) (cellB HG4.out 2) (cellB HG4.out 3) (frozB HG4.out 0) (frozB HG4.out 1) (frozB HG4.out 2) (frozB HG4.out 3)).mono ?_
  rintro e w2 ⟨rfl, rfl⟩
  have HG5 : Aside0 (((w1.alloc (.cells #[] 111)).setCells w.heap.size 0 (Lib.byteCells (Lib.beBytes 4 v))).heap[w.heap.size]? = some (.cells [.int .u8 ((v / 16777216 % 256 : Nat) : Int), .int .u8 ((v / 65536 % 256 : Nat) : Int), .int .u8 ((v / 256 % 256 : Nat) : Int), .int .u8 ((v % 256 : Nat) : Int)].toArray 5)) := ⟨by
    rw [be4, blk_setCells (e := 5) _ 0 [.int .u8 0, .int .u8 0, .int .u8 0, .int .u8 0] _ (((below_alloc (Below.refl _ w1) _).block _ (ltB HG4.out)).trans HG4.out) (by simp)]
    rfl⟩
  have HB5 : Aside0 (Below w.heap.size w ((w1.alloc (.cells #[] 111)).setCells w.heap.size 0 (Lib.byteCells (Lib.beBytes 4 v)))) := ⟨(below_then HBA.out HBA.out.size (below_alloc (Below.refl _ w1) _)).trans (Lib.below_setCells_w (Nat.le_refl _) _ _ _)⟩
  have HG6 : Aside0 (((w1.alloc (.cells #[] 111)).setCells w.heap.size 0 (Lib.byteCells (Lib.beBytes 4 v))).heap[g]? = some (.cells cur.toArray 5)) := ⟨(HB5.out.block g HLT.out).trans HG.out⟩
  clear HG4 HBA
  have e111 : Tryd.put32_ren.t 37 = 111 := rfl
  rw [e111]
  clear e111
  generalize (w1.alloc (.cells #[] 111)).setCells w.heap.size 0 (Lib.byteCells (Lib.beBytes 4 v)) = w3 at *
  have HM : Aside0 ((c24 v).length = Nat.min 3 n) := ⟨by have := H3.out; simp [Nat.min_def, c24]; omega⟩
  have HO : Aside0 (∀ u ∈ c24 v, u.oneCell' = true) := ⟨by intro u hu; simp [c24] at hu; rcases hu with rfl | rfl | rfl <;> rfl⟩
  have HFI : Aside0 (o + (c24 v).length ≤ cur.length) := ⟨HF.out⟩
  have HS : Aside0 (∀ j u, (c24 v)[j]? = some u → w3.cell? ((⟨w.heap.size, 1, none⟩ : Addr).add j) = some u) := ⟨fun j u hj => by
    rw [add_off, cellB HG5.out]
    rw [Nat.add_comm, List.getElem?_cons_succ]
    exact hj⟩
  have HBB : Aside0 (Below B w w3) := ⟨HB5.out.mono (Nat.le_trans HB.out (Nat.le_of_lt HLT.out))⟩
  go_wp2_with ((with_reducible refine gate_builtin (b := .copy) (xs := #[.tmp 10, .tmp 12]) rfl ?_); refine wpList_copy_splice rfl (.tmp 10) (.tmp 12) 59 59 rfl 5 Tryd.underlying59 size5 (some ⟨g, o, none⟩) (some ⟨w.heap.size, 1, none⟩) n c 3 3 rfl rfl g o cur 5 HG6.out (c24 v) HM.out (fun _ => ⟨rfl, ⟨w.heap.size, 1, none⟩, rfl, HS.out⟩) HFI.out HO.out B w HBB.out HB.out ?c6)
  case c6 =>
    intro w2 HG7 HB7
    have HB7 := Aside0.mk HB7
    have HG7 := Aside0.mk HG7.out
    go_wp2
    go_end0
    exact ⟨rfl, HB7.out, HG7.out⟩

theorem put16_at (g o n c v B : Nat) (hv : v < 65536) (cur : List Value) (w : World) (hg : w.heap[g]? = some (.cells cur.toArray 5)) (h3 : 2 ≤ n) (hfit : o + 2 ≤ cur.length) (hB : B ≤ g) :
    Calls Tryd.prog 56 #[.agg #[], .slice (some ⟨g, o, none⟩) n c, .int .u16 v] w fun e w' => e = .returned (.tuple #[]) ∧ Below B w w' ∧ w'.heap[g]? = some (.cells (splice cur o [.int .u8 ((v / 256 % 256 : Nat) : Int), .int .u8 ((v % 256 : Nat) : Int)]).toArray 5) := by
  have c0 : w.cell? ⟨g, o, none⟩ = some cur[o] := (cellB hg o).trans (List.getElem?_eq_getElem (by omega))
  have c1 : w.cell? ⟨g, o + 1, none⟩ = some cur[o + 1] := (cellB hg (o + 1)).trans (List.getElem?_eq_getElem (by omega))
  refine (Any.binary_BE_PutUint16 Tryd.put16 g o n c v hv _ _ w h3 c0 c1 (frozB hg _) (frozB hg _)).mono ?_
  rintro e w2 ⟨rfl, rfl⟩
  refine ⟨rfl, (Below.alloc (Below.refl B w) (Nat.le_trans hB (Nat.le_of_lt (ltB hg))) _).trans (Lib.below_setCells_w hB _ _ _), ?_⟩
  rw [be2, blk_setCells (e := 5) _ o cur _ (((below_alloc (Below.refl _ w) _).block _ (ltB hg)).trans hg) (by simpa using hfit)]

theorem mk12 (w : World) : (Instr.makeSlice 59 (.int .i64 12) (.int .i64 12)).run Tryd.prog w = .ok (.slice (some ⟨w.heap.size, 0, none⟩) 12 12) (w.alloc (.cells [.int .u8 0, .int .u8 0, .int .u8 0, .int .u8 0, .int .u8 0, .int .u8 0, .int .u8 0, .int .u8 0, .int .u8 0, .int .u8 0, .int .u8 0, .int .u8 0].toArray 5)) := by kernel_rfl

/-- The twelve bytes of a handshake header. -/
def hdr12 (t n s o f : Nat) : List Int :=
  [(t : Int), ((n / 65536 % 256 : Nat) : Int), ((n / 256 % 256 : Nat) : Int), ((n % 256 : Nat) : Int), ((s / 256 % 256 : Nat) : Int), ((s % 256 : Nat) : Int),
   ((o / 65536 % 256 : Nat) : Int), ((o / 256 % 256 : Nat) : Int), ((o % 256 : Nat) : Int), ((f / 65536 % 256 : Nat) : Int), ((f / 256 % 256 : Nat) : Int), ((f % 256 : Nat) : Int)]

set_option maxRecDepth 100000 in
set_option maxHeartbeats 1000000 in
theorem marsh_any (H t n s o f : Nat) (w : World) (hH : w.heap[H]? = some (.cells [.int .u8 t, .int .u32 n, .int .u16 s, .int .u32 o, .int .u32 f].toArray 96)) (hn : n < 16777216) (hs : s < 65536) (ho : o < 16777216) (hf : f < 16777216) :
    Calls Tryd.prog 42 #[.pointer (some ⟨H, 0, none⟩)] w fun e w' => e = .returned (.tuple #[.slice (some ⟨w.heap.size, 0, none⟩) 12 12, .nilIface]) ∧ Below w.heap.size w w' ∧
      w'.heap[w.heap.size]? = some (.cells ((hdr12 t n s o f).map (Value.int .u8)).toArray 5) := by
  have hlt := ltB hH
  have HH := Aside0.mk hH
  have m12 := mk12 w
  have HN : Aside0 (n < 16777216 ∧ s < 65536 ∧ o < 16777216 ∧ f < 16777216) := ⟨hn, hs, ho, hf⟩
  have HLT := Aside0.mk hlt
  clear hH hn hs ho hf hlt
  go_enter Tryd.func42, Tryd.ntmps42
  go_upto_region 2 with fail
  have HG1 := Aside0.mk (blk_new w (.cells [.int .u8 0, .int .u8 0, .int .u8 0, .int .u8 0, .int .u8 0, .int .u8 0, .int .u8 0, .int .u8 0, .int .u8 0, .int .u8 0, .int .u8 0, .int .u8 0].toArray 5))
  have HB1 : Aside0 (Below w.heap.size w (w.alloc (.cells [.int .u8 0, .int .u8 0, .int .u8 0, .int .u8 0, .int .u8 0, .int .u8 0, .int .u8 0, .int .u8 0, .int .u8 0, .int .u8 0, .int .u8 0, .int .u8 0].toArray 5))) := ⟨below_alloc (Below.refl _ w) _⟩
  clear m12
  generalize w.alloc (.cells [.int .u8 0, .int .u8 0, .int .u8 0, .int .u8 0, .int .u8 0, .int .u8 0, .int .u8 0, .int .u8 0, .int .u8 0, .int .u8 0, .int .u8 0, .int .u8 0].toArray 5) = w1 at *
  have k0 : w1.cell? ⟨H, 0, none⟩ = some (.int .u8 t) := cellB ((HB1.out.block H HLT.out).trans HH.out) 0
  have z0 : w1.cell? ⟨w.heap.size, 0, none⟩ = some (.int .u8 0) := cellB HG1.out 0
  have f0 : w1.frozen? ⟨w.heap.size, 0, none⟩ = false := frozB HG1.out 0
  have HG2 := Aside0.mk (blk_setL HG1.out 0 (.int .u8 t))
  have HB2 : Aside0 (Below w.heap.size w (w1.setCell ⟨w.heap.size, 0, none⟩ (.int .u8 t))) := ⟨below_set HB1.out (Nat.le_refl _)⟩
  go_upto_region 3 with fail
  clear k0 z0 f0 HG1 HB1
  generalize w1.setCell ⟨w.heap.size, 0, none⟩ (.int .u8 t) = w2 at *
  have k1 : w2.cell? ⟨H, 1, none⟩ = some (.int .u32 n) := cellB ((HB2.out.block H HLT.out).trans HH.out) 1
  have HC := Aside0.mk (put24_any w.heap.size 1 11 11 n w.heap.size HN.out.1 _ w2.drew HG2.out (by omega) (by simp) (Nat.le_refl _))
  go_region_with (go_at_call 55; refine HC.out.mono ?_; rintro e w3 ⟨rfl, hb, hg⟩; have HB3 := Aside0.mk hb; have HG3 := Aside0.mk hg; clear hb hg)
  have HB3 : Aside0 (Below w.heap.size w w3) := ⟨HB2.out.trans ((Below.drew (Below.refl _ w2)).trans HB3.out)⟩
  clear HC k1 HG2 HB2
  go_upto_region 4 with fail
  have k2 : w3.cell? ⟨H, 2, none⟩ = some (.int .u16 s) := cellB ((HB3.out.block H HLT.out).trans HH.out) 2
  have HC := Aside0.mk (put16_at w.heap.size 4 8 8 s w.heap.size HN.out.2.1 _ w3.drew HG3.out (by omega) (by simp [splice, c24]) (Nat.le_refl _))
  go_region_with (go_at_call 56; refine HC.out.mono ?_; rintro e w4 ⟨rfl, hb, hg⟩; have HB4 := Aside0.mk hb; have HG4 := Aside0.mk hg; clear hb hg)
  all_goals
    have HB4 : Aside0 (Below w.heap.size w w4) := ⟨HB3.out.trans ((Below.drew (Below.refl _ w3)).trans HB4.out)⟩
    clear HC k2 HG3 HB3
    go_upto_region 5 with fail
    have k3 : w4.cell? ⟨H, 3, none⟩ = some (.int .u32 o) := cellB ((HB4.out.block H HLT.out).trans HH.out) 3
    have HC := Aside0.mk (put24_any w.heap.size 6 6 6 o w.heap.size HN.out.2.2.1 _ w4.drew HG4.out (by omega) (by simp [splice, c24]) (Nat.le_refl _))
    go_region_with (go_at_call 55; refine HC.out.mono ?_; rintro e w5 ⟨rfl, hb, hg⟩; have HB5 := Aside0.mk hb; have HG5 := Aside0.mk hg; clear hb hg)
    have HB5 : Aside0 (Below w.heap.size w w5) := ⟨HB4.out.trans ((Below.drew (Below.refl _ w4)).trans HB5.out)⟩
    clear HC k3 HG4 HB4
    go_upto_region 6 with fail
    have k4 : w5.cell? ⟨H, 4, none⟩ = some (.int .u32 f) := cellB ((HB5.out.block H HLT.out).trans HH.out) 4
    have HC := Aside0.mk (put24_any w.heap.size 9 3 3 f w.heap.size HN.out.2.2.2 _ w5.drew HG5.out (by omega) (by simp [splice, c24]) (Nat.le_refl _))
    go_region_with (go_at_call 55; refine HC.out.mono ?_; rintro e w6 ⟨rfl, hb, hg⟩; have HB6 := Aside0.mk hb; have HG6 := Aside0.mk hg; clear hb hg)
    have HB6 : Aside0 (Below w.heap.size w w6) := ⟨HB5.out.trans ((Below.drew (Below.refl _ w5)).trans HB6.out)⟩
    clear HC k4 HG5 HB5
    go_wp2
    go_ret2
    exact ⟨rfl, HB6.out, HG6.out⟩

end Go.Proofs.YtblmbbllfiigmaaDoor
