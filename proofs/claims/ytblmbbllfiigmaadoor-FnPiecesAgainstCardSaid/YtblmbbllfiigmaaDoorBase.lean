/-
  Words of one's own for round p, and the functions that read numbers out of bytes, walked.
-/
import Derived.Test.YtblmbbllfiigmaaDoorShelf
import Derived.Test.YtblmbbllfiigmaaDoorWa
import Derived.WalkKit
import Derived.WalkSpells
import Derived.WalkLawsBesides
import Derived.StillTailTactics
import Derived.Deep.QuietTactic
import Derived.Laws.CopyOwn
import Derived.Lib.Hide
namespace Go.Proofs.YtblmbbllfiigmaaDoor
open Go.RowKit Go.Proofs.YtblmbbllfiigmaaDoorW.PrintWords Go.Proofs.YtblmbbllfiigmaaDoorW.PrintLast Go.Proofs.YtblmbbllfiigmaaDoorW.PrintMore

theorem cellB {w : World} {B : Nat} {e : TypeId} {l : List Value} (h : w.heap[B]? = some (.cells l.toArray e)) (j : Nat) : w.cell? ⟨B, j, none⟩ = l[j]? := by
  simp [World.cell?, h]
theorem frozB {w : World} {B : Nat} {e : TypeId} {l : Array Value} (h : w.heap[B]? = some (.cells l e)) (j : Nat) : w.frozen? ⟨B, j, none⟩ = false := by
  simp [World.frozen?, h]
theorem ltB {w : World} {B : Nat} {o : Obj} (h : w.heap[B]? = some o) : B < w.heap.size := (Array.getElem?_eq_some_iff.1 h).1
theorem grB (w : World) (B j : Nat) (v : Value) : w.grownBy (w.setCell ⟨B, j, none⟩ v) (some B) :=
  ⟨rfl, rfl, rfl, by simp [World.setCell], fun k hk hne => Below.heap_setCell w ⟨B, j, none⟩ v k (by simpa using hne)⟩
theorem grDrew (w : World) (row : Option Nat) : w.grownBy w.drew row := ⟨rfl, rfl, rfl, Nat.le_refl _, fun _ _ _ => rfl⟩

/-- All are bytes. -/
def Byt (l : List Int) : Prop := ∀ z ∈ l, (Lit.int .u8 z).wf = true
/-- Block b holds these bytes from place o on. -/
def BytAt (w : World) (b o : Nat) (l : List Int) : Prop := ∀ i, i < l.length → w.cell? ⟨b, o + i, none⟩ = some (.int .u8 (l.getD i 0))
theorem add_off (b o j : Nat) : (⟨b, o, none⟩ : Addr).add j = ⟨b, o + j, none⟩ := by unfold Addr.add; split <;> simp_all
theorem getD_drop (l : List Int) (k i : Nat) : (l.drop k).getD i 0 = l.getD (k + i) 0 := by simp [List.getD_eq_getElem?_getD]
theorem BytAt.drop {w : World} {b o : Nat} {l : List Int} (h : BytAt w b o l) (k : Nat) : BytAt w b (o + k) (l.drop k) := fun i hi => by
  rw [List.length_drop] at hi
  rw [getD_drop, Nat.add_assoc]
  exact h (k + i) (by omega)
theorem BytAt.take {w : World} {b o : Nat} {l : List Int} (h : BytAt w b o l) (k : Nat) : BytAt w b o (l.take k) := fun i hi => by
  rw [List.length_take] at hi
  rw [h i (by omega), List.getD_eq_getElem?_getD, List.getD_eq_getElem?_getD, List.getElem?_take, if_pos (by omega)]
theorem BytAt.below {w w1 : World} {b o : Nat} {l : List Int} (h : BytAt w b o l) (hb : Below w.heap.size w w1) : BytAt w1 b o l := fun i hi => pw_cell_below hb (h i hi)
theorem BytAt.move {w w1 : World} {b o : Nat} {l : List Int} (h : BytAt w b o l) (hb : w1.heap[b]? = w.heap[b]?) : BytAt w1 b o l := fun i hi => (World.cell?_of_block (a := ⟨b, o + i, none⟩) hb).trans (h i hi)
theorem BytAt.blk {w : World} {b o : Nat} {l : List Int} (h : BytAt w b o l) (h0 : 0 < l.length) : b < w.heap.size := World.block_lt_of_cell? w _ (h 0 h0)
theorem Byt.drop {l : List Int} (h : Byt l) (k : Nat) : Byt (l.drop k) := fun z hz => h z (List.mem_of_mem_drop hz)
theorem Byt.take {l : List Int} (h : Byt l) (k : Nat) : Byt (l.take k) := fun z hz => h z (List.mem_of_mem_take hz)

theorem mk4 (w : World) : (Instr.makeSlice 59 (.int .i64 4) (.int .i64 4)).run Tryd.prog w = .ok (.slice (some ⟨w.heap.size, 0, none⟩) 4 4) (w.alloc (.cells #[.int .u8 0, .int .u8 0, .int .u8 0, .int .u8 0] 5)) := by kernel_rfl
theorem info5 : (Tryd.prog.info? 5).map (fun i => (i.zero, i.size, i.bytes)) = some (some (.int .u8 0), 1, 1) := by kernel_rfl
theorem size5 : (Tryd.prog.info? 5).map (·.size) = some 1 := by kernel_rfl

theorem beZ3 (l : List Int) (h : 3 ≤ l.length) : Lib.beZ (l.take 3) = Lib.beZ [0, l.getD 0 0, l.getD 1 0, l.getD 2 0] := by
  match l, h with
  | a0 :: a1 :: a2 :: rest, _ => simp [Lib.beZ, Lib.beFromZ]

set_option maxRecDepth 100000 in
set_option maxHeartbeats 1000000 in
theorem u24_any (b o n c : Nat) (l : List Int) (w : World) (hr : BytAt w b o l) (hn : n = l.length) (hw : Byt l) (h3 : 3 ≤ l.length) :
    Calls Tryd.prog 49 #[.slice (some ⟨b, o, none⟩) n c] w fun e w' => e = .returned (.int .u32 (Lib.beZ (l.take 3))) ∧ Below w.heap.size w w' := by
  subst hn
  have hc : ∀ i, i < l.length → w.cell? ((⟨b, o, none⟩ : Addr).add i) = some (.int .u8 (l.getD i 0)) := fun i hi => by rw [add_off]; exact hr i hi
  rw [beZ3 l h3]
  have hb : ∀ i, i < 3 → (Lit.int .u8 (l.getD i 0)).wf = true := fun i hi => hw _ (by rw [List.getD_eq_getElem?_getD, List.getElem?_eq_getElem (by omega)]; exact List.getElem_mem _)
  have HC := Aside0.mk hc
  have HW := Aside0.mk hb
  clear hr hc hw hb
  have p3 : (3 : Int) ≤ (l.length : Int) := by omega
  have m4 := mk4
  generalize h0 : l.getD 0 0 = a0
  generalize h1 : l.getD 1 0 = a1
  generalize h2 : l.getD 2 0 = a2
  have H0 := Aside0.mk h0
  have H1 := Aside0.mk h1
  have H2 := Aside0.mk h2
  have H3 := Aside0.mk h3
  clear h0 h1 h2 h3
  have HS : Aside0 (∀ j v, [Value.int .u8 a0, .int .u8 a1, .int .u8 a2][j]? = some v → (w.alloc (.cells #[.int .u8 0, .int .u8 0, .int .u8 0, .int .u8 0] 5)).cell? ((⟨b, o, none⟩ : Addr).add j) = some v) := ⟨fun j v hj => by
    have hlt : j < 3 := by have := (List.getElem?_eq_some_iff.1 hj).1; simpa using this
    have hh := pw_cell_below (below_alloc (Below.refl _ w) (.cells #[.int .u8 0, .int .u8 0, .int .u8 0, .int .u8 0] 5)) (HC.out j (by have := H3.out; omega))
    rw [hh]
    match j, hlt, hj with
    | 0, _, hj => rw [H0.out]; simpa using hj
    | 1, _, hj => rw [H1.out]; simpa using hj
    | 2, _, hj => rw [H2.out]; simpa using hj⟩
  have HM : Aside0 ([Value.int .u8 a0, .int .u8 a1, .int .u8 a2].length = Nat.min l.length 3) := ⟨by have := H3.out; simp [Nat.min_def]; omega⟩
  have HO : Aside0 (∀ v ∈ [Value.int .u8 a0, .int .u8 a1, .int .u8 a2], v.oneCell' = true) := ⟨by intro v hv; simp at hv; rcases hv with rfl | rfl | rfl <;> rfl⟩
  go_enter Tryd.func49, Tryd.ntmps49
  go_wp2_with ((with_reducible refine gate_builtin (b := .copy) (xs := #[.tmp 9, .tmp 10]) rfl ?_); refine wpList_copy_splice rfl (.tmp 9) (.tmp 10) 59 59 rfl 5 Tryd.underlying59 size5 (some ⟨w.heap.size, 1, none⟩) (some ⟨b, o, none⟩) 3 3 l.length c rfl rfl w.heap.size 1 [.int .u8 0, .int .u8 0, .int .u8 0, .int .u8 0] 5 (blk_new _ _) [.int .u8 a0, .int .u8 a1, .int .u8 a2] HM.out (fun _ => ⟨rfl, ⟨b, o, none⟩, rfl, HS.out⟩) (by simp) HO.out w.heap.size w (below_alloc (Below.refl _ w) _) (Nat.le_refl _) ?c6)
  case c6 =>
    intro w2 HG HB
    have HB := Aside0.mk HB
    have HG2 := Aside0.mk HG.out
    clear HG
    go_wp2_with fail
    have hx : w2.heap[w.heap.size]? = some (.cells [.int .u8 0, .int .u8 a0, .int .u8 a1, .int .u8 a2].toArray 5) := HG2.out
    refine (Any.binary_BE_Uint32_z Tryd.be32 ⟨w.heap.size, 0, none⟩ 4 4 [0, a0, a1, a2] w2 (by omega) (by simp) (fun i hi => ?_) (fun z hz => ?_)).mono ?_
    · rw [add_plain, cellB hx]
      simp at hi
      match i, hi with
      | 0, _ => rfl
      | 1, _ => rfl
      | 2, _ => rfl
      | 3, _ => rfl
    · simp at hz
      rcases hz with rfl | rfl | rfl | rfl
      · rfl
      · rw [← H0.out]; exact HW.out 0 (by omega)
      · rw [← H1.out]; exact HW.out 1 (by omega)
      · rw [← H2.out]; exact HW.out 2 (by omega)
    · rintro e w3 ⟨rfl, hb3⟩
      have HB3 := Aside0.mk (below_then HB.out HB.out.size hb3)
      clear hb3 hx
      go_wp2
      go_ret
      exact ⟨rfl, HB3.out⟩

theorem u16_any (b o n c : Nat) (l : List Int) (w : World) (hr : BytAt w b o l) (hn : n = l.length) (hw : Byt l) (h3 : 2 ≤ l.length) :
    Calls Tryd.prog 46 #[.agg #[], .slice (some ⟨b, o, none⟩) n c] w fun e w' => e = .returned (.int .u16 (Lib.beZ (l.take 2))) ∧ Below w.heap.size w w' := by
  subst hn
  exact Any.binary_BE_Uint16_z Tryd.be16 ⟨b, o, none⟩ l.length c l w h3 h3 (fun i hi => by rw [add_off]; exact hr i hi) hw

end Go.Proofs.YtblmbbllfiigmaaDoor
