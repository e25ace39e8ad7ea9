-- Printed by a program, out of the translation.
import Derived.Test.YtblmbbllfiigmaaDoorPAllx0
namespace Go.Proofs.YtblmbbllfiigmaaDoor.PAll
open Go.RowKit Go.Proofs.YtblmbbllfiigmaaDoorW.PrintWords Go.Proofs.YtblmbbllfiigmaaDoorW.PrintLast Go.Proofs.YtblmbbllfiigmaaDoorW.PrintMore
attribute [local go_sem] max2_int min2_int max_two min_two max_three min_three max_four min_four   -- for this text's walks alone
set_option linter.unusedVariables false
set_option linter.unusedSimpArgs false

/-- A state of type 78 at block g of W; what its slices lead to came in by w0. -/
def IsS78 (w0 W : World) (g : Nat) (f0 : ByteArray) (f1 : Bool) : Prop := W.heap[g]? = some (.cells #[.string f0, .bool f1] 78 (0, 0)) ∧ w0.heap.size ≤ g
theorem IsS78.grown {w0 W : World} {g : Nat} {f0 : ByteArray} {f1 : Bool} {W1 : World} {row : Option Nat} (h : IsS78 w0 W g f0 f1) (hw : W.grownBy W1 row) (hne : some g ≠ row) : IsS78 w0 W1 g f0 f1 := by
 obtain ⟨hb, hg⟩ := h
 exact ⟨blk_grown hb hw hne, hg⟩
theorem IsS78.fresh {w0 W : World} {g : Nat} {f0 : ByteArray} {f1 : Bool} (h : IsS78 w0 W g f0 f1) : ∀ k, W.heap.size ≤ k → k ≠ g := by
 obtain ⟨hb, hg⟩ := h
 exact Kd.freshB hb
theorem IsS78.kept {w0 W : World} {g : Nat} {f0 : ByteArray} {f1 : Bool} {W1 : World} {S : Nat → Prop} (h : IsS78 w0 W g f0 f1) (hk : Kept W W1 S) (hne : ¬ S g) : IsS78 w0 W1 g f0 f1 := by
 obtain ⟨hb, hg⟩ := h
 exact ⟨blk_kept hb hk hne, hg⟩
theorem IsS78.below {w0 W : World} {g : Nat} {f0 : ByteArray} {f1 : Bool} {W1 : World} (h : IsS78 w0 W g f0 f1) (hw : Below W.heap.size W W1) : IsS78 w0 W1 g f0 f1 := h.grown (grown_of_below hw none) (by simp)
theorem IsS78.alloc {w0 W : World} {g : Nat} {f0 : ByteArray} {f1 : Bool} (h : IsS78 w0 W g f0 f1) (o : Obj) : IsS78 w0 (W.alloc o) g f0 f1 := h.below (below_alloc (Below.refl _ _) o)
theorem IsS78.drewN {w0 W : World} {g : Nat} {f0 : ByteArray} {f1 : Bool} (h : IsS78 w0 W g f0 f1) (m : Nat) : IsS78 w0 (W.drewN m) g f0 f1 := h
theorem IsS78.drew {w0 W : World} {g : Nat} {f0 : ByteArray} {f1 : Bool} (h : IsS78 w0 W g f0 f1) : IsS78 w0 W.drew g f0 f1 := h
theorem IsS78.at_ {w0 W : World} {g : Nat} {f0 : ByteArray} {f1 : Bool} {w' : World} {m : Nat} (hq : W.drewN m = w') (h : IsS78 w0 W g f0 f1) : IsS78 w0 w' g f0 f1 := by subst hq; exact IsS78.drewN h m
theorem IsS78.apart {w0 W : World} {g : Nat} {f0 : ByteArray} {f1 : Bool} {α : Type} {d : Kd α} {e : Nat} {base : Nat} {ok : Nat → Prop} {v : Value} {xs : List α} (h : IsS78 w0 W g f0 f1) (ho : d.R e W base ok v xs) (ht : ∀ q, q ∈ e :: d.E → q ≠ 78) : d.R e W base (fun k => ok k ∧ k ≠ g) v xs := by
 obtain ⟨hb, hg⟩ := h
 exact Kd.R_types ho hb ht
theorem IsS78.own_ne {w0 W : World} {g : Nat} {f0 : ByteArray} {f1 : Bool} {α : Type} {d : Kd α} {e : Nat} {base : Nat} {ok : Nat → Prop} {v : Value} {xs : List α} (h : IsS78 w0 W g f0 f1) (ho : d.R e W base ok v xs) (ht : e ≠ 78) : some g ≠ v.ownBlock := by
 obtain ⟨hb, hg⟩ := h
 exact Kd.R_ne ho hb ht
theorem IsS78.lt {w0 W : World} {g : Nat} {f0 : ByteArray} {f1 : Bool} (h : IsS78 w0 W g f0 f1) : g < W.heap.size := by
 obtain ⟨hb, hg⟩ := h
 exact blk_lt hb
theorem IsS78.ge {w0 W : World} {g : Nat} {f0 : ByteArray} {f1 : Bool} (h : IsS78 w0 W g f0 f1) : w0.heap.size ≤ g := by
 obtain ⟨hb, hg⟩ := h
 exact hg
theorem IsS78.far {w0 W : World} {g : Nat} {f0 : ByteArray} {f1 : Bool} {p : Addr} (h : IsS78 w0 W g f0 f1) (hne : g ≠ p.block) (u : Value) : IsS78 w0 (W.setCell p u) g f0 f1 := by
 obtain ⟨hb, hg⟩ := h
 exact ⟨blk_far hb hne u, hg⟩
theorem cellS78_0 {W : World} {g : Nat} {f0 : ByteArray} {f1 : Bool} (h : W.heap[g]? = some (.cells #[.string f0, .bool f1] 78 (0, 0))) : W.cell? ⟨g, 0, none⟩ = some (.string f0) := (blk_cell h 0).trans rfl
theorem IsS78.set_0 {w0 W : World} {g : Nat} {f0 : ByteArray} {f1 : Bool} (h : IsS78 w0 W g f0 f1) (x : ByteArray) : IsS78 w0 (W.setCell ⟨g, 0, none⟩ (.string x)) g x f1 := by
 obtain ⟨hb, hg⟩ := h
 exact ⟨by simpa using blk_set hb 0 (.string x), hg⟩
theorem cellS78_1 {W : World} {g : Nat} {f0 : ByteArray} {f1 : Bool} (h : W.heap[g]? = some (.cells #[.string f0, .bool f1] 78 (0, 0))) : W.cell? ⟨g, 1, none⟩ = some (.bool f1) := (blk_cell h 1).trans rfl
theorem IsS78.set_1 {w0 W : World} {g : Nat} {f0 : ByteArray} {f1 : Bool} (h : IsS78 w0 W g f0 f1) (x : Bool) : IsS78 w0 (W.setCell ⟨g, 1, none⟩ (.bool x)) g f0 x := by
 obtain ⟨hb, hg⟩ := h
 exact ⟨by simpa using blk_set hb 1 (.bool x), hg⟩
theorem IsS78.new (w0 W : World) (f0 : ByteArray) (f1 : Bool) (hB : Below w0.heap.size w0 W) : IsS78 w0 (W.alloc (.cells #[.string f0, .bool f1] 78)) W.heap.size f0 f1 := ⟨by simpa using heap_alloc_new W _, hB.size⟩

/-! ### laws_zzFits2: function 16 -/
def laws_zzFits2.l0 : Nat → List ByteArray → Int → Int → Option (Bool)
 | 0, _, _, _ => none
 | k + 1, x8, x9, x10 => if x10 < x9 then (if 0 ≤ x10 then (if x10 < (x8.length : Int) then (if ((rdOf ByteArray.empty x8 x10).size : Int) > 2147483647 then (some false) else (laws_zzFits2.l0 k x8 x9 (wrap64 (x10 + 1)))) else (none)) else (none)) else (some true)
def laws_zzFits2.f (k : Nat) (l0 : List ByteArray) : Option (Bool) := if (l0.length : Int) > 2147483647 then (some false) else (laws_zzFits2.l0 k l0 (l0.length : Int) 0)
set_option maxHeartbeats 8000000 in
set_option maxRecDepth 100000 in
theorem laws_zzFits2.calls (k : Nat) (A0 : Option Addr) (c0 : Nat) (l0 : List ByteArray) (r : Bool) (w : World) (hr0 : Kd.C Kd.string w A0 l0.length l0) (hc0 : l0.length ≤ c0) (h : laws_zzFits2.f k l0 = some r) :
  Calls Tryd.prog 16 #[.slice A0 l0.length c0] w fun e w' => e = .returned (.bool r) ∧ Drawn0 w w' := by
 have HR0 := Aside0.mk hr0
 have HC0 := Aside0.mk hc0
 clear hr0 hc0
 have H : (if (l0.length : Int) > 2147483647 then (some false) else (laws_zzFits2.l0 k l0 (l0.length : Int) 0)) = some r := h
 clear h
 by_cases c2 : (l0.length : Int) > 2147483647
 ·rw [if_pos c2] at H
  have c2b0 : decide (2147483647 < (l0.length : Int)) = true := decide_eq_true c2
  have c2b1 : decide (2147483647 < l0.length) = true := decide_eq_true (by omega)
  clear c2
  obtain rfl := Option.some.inj H
  go_enter Tryd.func16, Tryd.ntmps16
  go_wp2
  go_ret
  exact ⟨by first | rfl | (simp; done) | (simp [*]; done), by repeat (first | exact Drawn0.refl _ | apply Drawn0.step)⟩
 rw [if_neg c2] at H
 have c2b0 : decide (2147483647 < (l0.length : Int)) = false := decide_eq_false c2
 have c2b1 : decide (2147483647 < l0.length) = false := decide_eq_false (by omega)
 clear c2
 have H' := Aside0.mk H
 clear H
 go_enter Tryd.func16, Tryd.ntmps16
 go_wp2
 go_loopg [10] k (fun kq v10 w' => ∃ (x10_1 : Int), v10 = .int .i64 x10_1 ∧ Aside0 (laws_zzFits2.l0 kq l0 (l0.length : Int) x10_1 = some r) ∧ Aside0 (kq ≤ k) ∧ Drawn0 w w')
 case atStart => exact ⟨(0), (by first | rfl | (simp; done) | (simp [*]; done)), H', ⟨Nat.le_refl _⟩, by repeat (first | exact Drawn0.refl _ | apply Drawn0.step)⟩
 case round =>
  clear H'
  try clear c1
  try clear c2
  try clear c2b0
  try clear c2b1
  try clear p2
  obtain ⟨x10_1, rfl, HA, HK1, ⟨m1, rfl⟩⟩ := hrel
  cases gk with
  | zero => exact absurd HA.out (by simp [laws_zzFits2.l0])
  | succ k1 =>
   have H := HA.out
   clear HA
   simp only [laws_zzFits2.l0] at H
   by_cases c3 : x10_1 < (l0.length : Int)
   rotate_left
   ·rw [if_neg c3] at H
    have c3b0 : decide (x10_1 < (l0.length : Int)) = false := decide_eq_false c3
    clear c3
    obtain rfl := Option.some.inj H
    go_wp2
    go_ret
    exact ⟨by first | rfl | (simp; done) | (simp [*]; done), by repeat (first | exact Drawn0.refl _ | apply Drawn0.step)⟩
   rw [if_pos c3] at H
   have c3b0 : decide (x10_1 < (l0.length : Int)) = true := decide_eq_true c3
   clear c3
   by_cases c4 : 0 ≤ x10_1
   rotate_left
   ·rw [if_neg c4] at H
    exact absurd H (by simp)
   rw [if_pos c4] at H
   have c4b0 : decide (0 ≤ x10_1) = true := decide_eq_true c4
   clear c4
   by_cases c5 : x10_1 < (l0.length : Int)
   rotate_left
   ·rw [if_neg c5] at H
    exact absurd H (by simp)
   rw [if_pos c5] at H
   have c5b0 : decide (x10_1 < (l0.length : Int)) = true := decide_eq_true c5
   clear c5
   by_cases c6 : ((rdOf ByteArray.empty l0 x10_1).size : Int) > 2147483647
   ·rw [if_pos c6] at H
    have c6b0 : decide (2147483647 < ((rdOf ByteArray.empty l0 x10_1).size : Int)) = true := decide_eq_true c6
    have c6b1 : decide (2147483647 < (rdOf ByteArray.empty l0 x10_1).size) = true := decide_eq_true (by omega)
    clear c6
    obtain rfl := Option.some.inj H
    have p200 : 0 ≤ (x10_1 : Int) := of_decide_eq_true (by first | (with_reducible assumption) | assumption)
    have q200 : x10_1 < (l0.length : Int) := of_decide_eq_true (by first | (with_reducible assumption) | assumption)
    obtain ⟨ad200, e200, hx200_0⟩ := Kd.at_string HR0.out x10_1 p200 q200
    cases e200
    replace p200 := eq_true p200
    replace q200 := eq_true q200
    go_wp2
    go_ret
    exact ⟨by first | rfl | (simp; done) | (simp [*]; done), by repeat (first | exact Drawn0.refl _ | apply Drawn0.step)⟩
   rw [if_neg c6] at H
   have c6b0 : decide (2147483647 < ((rdOf ByteArray.empty l0 x10_1).size : Int)) = false := decide_eq_false c6
   have c6b1 : decide (2147483647 < (rdOf ByteArray.empty l0 x10_1).size) = false := decide_eq_false (by omega)
   clear c6
   have H' := Aside0.mk H
   clear H
   have p200 : 0 ≤ (x10_1 : Int) := of_decide_eq_true (by first | (with_reducible assumption) | assumption)
   have q200 : x10_1 < (l0.length : Int) := of_decide_eq_true (by first | (with_reducible assumption) | assumption)
   obtain ⟨ad200, e200, hx200_0⟩ := Kd.at_string HR0.out x10_1 p200 q200
   cases e200
   replace p200 := eq_true p200
   replace q200 := eq_true q200
   go_wp2
   go_roundg k1
   case measure => have := HK1.out; omega
   case rel => exact ⟨(wrap64 (x10_1 + 1)), (by first | rfl | (simp; done) | (simp [*]; done)), H', ⟨by have := HK1.out; omega⟩, by repeat (first | exact Drawn0.refl _ | apply Drawn0.step)⟩

/-! ### spec_reader_take: function 34 -/
def spec_reader_take.f (s0_0 : ByteArray) (s0_1 : Bool) (a1 : Int) : Option (ByteArray × ByteArray × Bool) := if a1 > (s0_0.size : Int) then (if 0 ≤ (s0_0.size : Int) then (if (s0_0.size : Int) ≤ (s0_0.size : Int) then (some (s0_0.extract 0 ((s0_0.size : Int) : Int).toNat, ByteArray.empty, true)) else (none)) else (none)) else (if 0 ≤ a1 then (if a1 ≤ (s0_0.size : Int) then (some (s0_0.extract 0 (a1 : Int).toNat, s0_0.extract (a1 : Int).toNat s0_0.size, s0_1)) else (none)) else (none))
set_option maxHeartbeats 8000000 in
set_option maxRecDepth 100000 in
theorem spec_reader_take.calls (g : Nat) (s0_0 : ByteArray) (s0_1 : Bool) (a1 : Int) (r1 : ByteArray) (r2 : ByteArray) (r3 : Bool) (w0 w : World) (hI : IsS78 w0 w g s0_0 s0_1) (hB : Below w0.heap.size w0 w) (h : spec_reader_take.f s0_0 s0_1 a1 = some (r1, r2, r3)) :
  Calls Tryd.prog 34 #[.pointer (some ⟨g, 0, none⟩), .int .i64 a1] w fun e w' => e = .returned (.string r1) ∧ IsS78 w0 w' g r2 r3 ∧ Below w0.heap.size w0 w' ∧ KeepBut w w' g none := by
 have HI0 := Aside0.mk hI
 have HK := Aside0.mk (KeepBut.refl w g none)
 have HL := Aside0.mk hB.size
 clear hI
 have HW0 := Aside0.mk hB.size
 have HB := Aside0.mk hB
 clear hB
 have H : (if a1 > (s0_0.size : Int) then (if 0 ≤ (s0_0.size : Int) then (if (s0_0.size : Int) ≤ (s0_0.size : Int) then (some (s0_0.extract 0 ((s0_0.size : Int) : Int).toNat, ByteArray.empty, true)) else (none)) else (none)) else (if 0 ≤ a1 then (if a1 ≤ (s0_0.size : Int) then (some (s0_0.extract 0 (a1 : Int).toNat, s0_0.extract (a1 : Int).toNat s0_0.size, s0_1)) else (none)) else (none))) = some (r1, r2, r3) := h
 clear h
 by_cases c3 : a1 > (s0_0.size : Int)
 rotate_left
 ·rw [if_neg c3] at H
  have c3b0 : decide ((s0_0.size : Int) < a1) = false := decide_eq_false c3
  clear c3
  by_cases c9 : 0 ≤ a1
  rotate_left
  ·rw [if_neg c9] at H
   exact absurd H (by simp)
  rw [if_pos c9] at H
  have c9b0 := eq_true c9
  have c9b1 : decide (0 ≤ a1) = true := decide_eq_true c9
  clear c9
  by_cases c10 : a1 ≤ (s0_0.size : Int)
  rotate_left
  ·rw [if_neg c10] at H
   exact absurd H (by simp)
  rw [if_pos c10] at H
  have c10b0 := eq_true c10
  have c10b1 : decide (a1 ≤ (s0_0.size : Int)) = true := decide_eq_true c10
  clear c10
  have c11b0 := eq_true (of_decide_eq_true (by first | (with_reducible assumption) | assumption) : 0 ≤ a1)
  have c12b0 := eq_true (of_decide_eq_true (by first | (with_reducible assumption) | assumption) : a1 ≤ (s0_0.size : Int))
  simp only [Option.some.injEq, Prod.mk.injEq] at H
  obtain ⟨rfl, rfl, rfl⟩ := H
  obtain ⟨HGz13, hgz13⟩ := HI0.out
  have hcz13_0 := cellS78_0 HGz13
  have hcz13_1 := cellS78_1 HGz13
  have hfz13_0 := blk_frozen HGz13 0
  have hfz13_1 := blk_frozen HGz13 1
  clear HGz13 hgz13
  go_enter Tryd.func34, Tryd.ntmps34
  go_wp2
  go_ret
  exact ⟨by first | rfl | (simp [errW_none, errW_some] <;> rfl) | (simp [*, errW_none, errW_some] <;> rfl), by repeat (first | (with_reducible first | exact HI0.out | apply IsS78.alloc | apply IsS78.drewN | apply IsS78.drew | apply IsS78.set_0 | apply IsS78.set_1) | exact HI0.out), by repeat (first | (with_reducible first | exact HB.out | apply below_alloc | apply pw_below_drewN | apply below_drew1 | refine below_set ?_ (IsS78.ge HI0.out)) | exact HB.out), by repeat (first | (with_reducible first | exact HK.out | apply KeepBut.set_ | apply keep_drewN | apply keep_drew | apply keep_alloc) | exact HK.out)⟩
 rw [if_pos c3] at H
 have c3b0 : decide ((s0_0.size : Int) < a1) = true := decide_eq_true c3
 clear c3
 by_cases c4 : 0 ≤ (s0_0.size : Int)
 rotate_left
 ·rw [if_neg c4] at H
  exact absurd H (by simp)
 rw [if_pos c4] at H
 have c4b0 := eq_true c4
 have c4b1 : decide (0 ≤ (s0_0.size : Int)) = true := decide_eq_true c4
 clear c4
 by_cases c5 : (s0_0.size : Int) ≤ (s0_0.size : Int)
 rotate_left
 ·rw [if_neg c5] at H
  exact absurd H (by simp)
 rw [if_pos c5] at H
 have c5b0 := eq_true c5
 have c5b1 : decide ((s0_0.size : Int) ≤ (s0_0.size : Int)) = true := decide_eq_true c5
 clear c5
 have c6b0 := eq_true (of_decide_eq_true (by first | (with_reducible assumption) | assumption) : 0 ≤ (s0_0.size : Int))
 have c7b0 := eq_true (of_decide_eq_true (by first | (with_reducible assumption) | assumption) : (s0_0.size : Int) ≤ (s0_0.size : Int))
 simp only [Option.some.injEq, Prod.mk.injEq] at H
 obtain ⟨rfl, rfl, rfl⟩ := H
 obtain ⟨HGz8, hgz8⟩ := HI0.out
 have hcz8_0 := cellS78_0 HGz8
 have hcz8_1 := cellS78_1 HGz8
 have hfz8_0 := blk_frozen HGz8 0
 have hfz8_1 := blk_frozen HGz8 1
 clear HGz8 hgz8
 go_enter Tryd.func34, Tryd.ntmps34
 go_wp2
 go_ret
 exact ⟨by first | rfl | (simp [errW_none, errW_some] <;> rfl) | (simp [*, errW_none, errW_some] <;> rfl), by repeat (first | (with_reducible first | exact HI0.out | apply IsS78.alloc | apply IsS78.drewN | apply IsS78.drew | apply IsS78.set_0 | apply IsS78.set_1) | exact HI0.out), by repeat (first | (with_reducible first | exact HB.out | apply below_alloc | apply pw_below_drewN | apply below_drew1 | refine below_set ?_ (IsS78.ge HI0.out)) | exact HB.out), by repeat (first | (with_reducible first | exact HK.out | apply KeepBut.set_ | apply keep_drewN | apply keep_drew | apply keep_alloc) | exact HK.out)⟩

/-! ### spec_reader_number: function 35 -/
def spec_reader_number.l0 : Nat → ByteArray → Int → Int → ByteArray → Bool → Option (Int × ByteArray × Bool)
 | 0, _, _, _, _, _ => none
 | k + 1, x5, x6, x7, x1000, x1001 => if x7 < (x5.size : Int) then (if 0 ≤ x7 then (spec_reader_number.l0 k x5 (Go.bits .or .i64 (wrap64 (x6 * 256)) (wrap64 (bt x5 x7))) (wrap64 (x7 + 1)) x1000 x1001) else (none)) else (some (x6, x1000, x1001))
def spec_reader_number.f (k : Nat) (s0_0 : ByteArray) (s0_1 : Bool) (a1 : Int) : Option (Int × ByteArray × Bool) := (spec_reader_take.f s0_0 s0_1 a1).bind fun bt233 => (spec_reader_number.l0 k bt233.1 0 0 bt233.2.1 bt233.2.2)
set_option maxHeartbeats 8000000 in
set_option maxRecDepth 100000 in
theorem spec_reader_number.calls (k : Nat) (g : Nat) (s0_0 : ByteArray) (s0_1 : Bool) (a1 : Int) (r1 : Int) (r2 : ByteArray) (r3 : Bool) (w0 w : World) (hI : IsS78 w0 w g s0_0 s0_1) (hB : Below w0.heap.size w0 w) (h : spec_reader_number.f k s0_0 s0_1 a1 = some (r1, r2, r3)) :
  Calls Tryd.prog 35 #[.pointer (some ⟨g, 0, none⟩), .int .i64 a1] w fun e w' => e = .returned (.int .i64 r1) ∧ IsS78 w0 w' g r2 r3 ∧ Below w0.heap.size w0 w' ∧ KeepBut w w' g none := by
 have HI0 := Aside0.mk hI
 have HK := Aside0.mk (KeepBut.refl w g none)
 have HL := Aside0.mk hB.size
 clear hI
 have HW0 := Aside0.mk hB.size
 have HB := Aside0.mk hB
 clear hB
 have H : ((spec_reader_take.f s0_0 s0_1 a1).bind fun bt233 => (spec_reader_number.l0 k bt233.1 0 0 bt233.2.1 bt233.2.2)) = some (r1, r2, r3) := h
 clear h
 replace H := Option.bind_eq_some_iff.mp H
 obtain ⟨⟨t233, t234, t235⟩, A30, H⟩ := H
 replace H : (spec_reader_number.l0 k t233 0 0 t234 t235) = some (r1, r2, r3) := H
 have A3 := Aside0.mk A30
 clear A30
 have H' := Aside0.mk H
 clear H
 go_enter Tryd.func35, Tryd.ntmps35
 go_wp2_with (first | ((with_reducible refine gate_callee (f := 34) rfl ?_); refine goesL_ (some 10) rfl rfl Tryd.func34 (by kernel_rfl) rfl #[.pointer (some ⟨g, 0, none⟩), .int .i64 a1] rfl (by (try simp only [List.map_toArray, List.map_cons, List.map_nil]); first | done | rfl | (simp only [List.length_drop, List.length_take]; rfl)) ?_; (with_reducible refine (spec_reader_take.calls g s0_0 s0_1 a1 t233 t234 t235 w0 _ ?side1 ?side2 A3.out).mono ?_); (case side1 => repeat (first | (with_reducible first | exact HI0.out | apply IsS78.alloc | apply IsS78.drewN | apply IsS78.drew | apply IsS78.set_0 | apply IsS78.set_1) | exact HI0.out)); (case side2 => repeat (first | (with_reducible first | exact HB.out | apply below_alloc | apply pw_below_drewN | apply below_drew1 | refine below_set ?_ (IsS78.ge HI0.out)) | exact HB.out)); rintro e w4 ⟨rfl, hi, hb, hk⟩; refine ⟨_, rfl, ?_⟩; have n0_ := Aside0.mk (KeepBut.trans (by repeat (first | (with_reducible first | exact HK.out | apply KeepBut.set_ | apply keep_drewN | apply keep_drew | apply keep_alloc) | exact HK.out)) hk (.inl rfl)); have n1_ := Aside0.mk (hb); have n2_ := Aside0.mk (hi); clear HK; clear HB; clear HI0; have HK := n0_; have HB := n1_; have HI0 := n2_; clear n0_ n1_ n2_; (try clear hb); (try clear hb2); (try clear hk); (try clear hi)))
 go_loopg [6, 7] k (fun kq v6 v7 w' => ∃ (x6_1 : Int) (x7_1 : Int), v6 = .int .i64 x6_1 ∧ v7 = .int .i64 x7_1 ∧ Aside0 (spec_reader_number.l0 kq t233 x6_1 x7_1 t234 t235 = some (r1, r2, r3)) ∧ Aside0 (kq ≤ k) ∧ Aside0 (IsS78 w0 w' g t234 t235) ∧ Aside0 (KeepBut w w' g none) ∧ Aside0 (Below w0.heap.size w0 w'))
 case atStart => exact ⟨(0), (0), (by first | rfl | (simp; done) | (simp [*]; done)), (by first | rfl | (simp; done) | (simp [*]; done)), H', ⟨Nat.le_refl _⟩, ⟨by repeat (first | (with_reducible first | exact HI0.out | apply IsS78.alloc | apply IsS78.drewN | apply IsS78.drew | apply IsS78.set_0 | apply IsS78.set_1) | exact HI0.out)⟩, ⟨by repeat (first | (with_reducible first | exact HK.out | apply KeepBut.set_ | apply keep_drewN | apply keep_drew | apply keep_alloc) | exact HK.out)⟩, ⟨by repeat (first | (with_reducible first | exact HB.out | apply below_alloc | apply pw_below_drewN | apply below_drew1 | refine below_set ?_ (IsS78.ge HI0.out)) | exact HB.out)⟩⟩
 case round =>
  clear H'
  try clear p2
  try clear c3
  obtain ⟨x6_1, x7_1, rfl, rfl, HA, HK1, HI0, HK, HB⟩ := hrel
  cases gk with
  | zero => exact absurd HA.out (by simp [spec_reader_number.l0])
  | succ k1 =>
   have H := HA.out
   clear HA
   simp only [spec_reader_number.l0] at H
   by_cases c5 : x7_1 < (t233.size : Int)
   rotate_left
   ·rw [if_neg c5] at H
    have c5b0 : decide (x7_1 < (t233.size : Int)) = false := decide_eq_false c5
    clear c5
    simp only [Option.some.injEq, Prod.mk.injEq] at H
    obtain ⟨rfl, rfl, rfl⟩ := H
    go_wp2
    go_ret
    exact ⟨by first | rfl | (simp [errW_none, errW_some] <;> rfl) | (simp [*, errW_none, errW_some] <;> rfl), by repeat (first | (with_reducible first | exact HI0.out | apply IsS78.alloc | apply IsS78.drewN | apply IsS78.drew | apply IsS78.set_0 | apply IsS78.set_1) | exact HI0.out), by repeat (first | (with_reducible first | exact HB.out | apply below_alloc | apply pw_below_drewN | apply below_drew1 | refine below_set ?_ (IsS78.ge HI0.out)) | exact HB.out), by repeat (first | (with_reducible first | exact HK.out | apply KeepBut.set_ | apply keep_drewN | apply keep_drew | apply keep_alloc) | exact HK.out)⟩
   rw [if_pos c5] at H
   have c5b0 : decide (x7_1 < (t233.size : Int)) = true := decide_eq_true c5
   clear c5
   by_cases c6 : 0 ≤ x7_1
   rotate_left
   ·rw [if_neg c6] at H
    exact absurd H (by simp)
   rw [if_pos c6] at H
   have c6b0 : decide (0 ≤ x7_1) = true := decide_eq_true c6
   clear c6
   have H' := Aside0.mk H
   clear H
   have p7 : 0 ≤ (x7_1 : Int) := of_decide_eq_true (by first | (with_reducible assumption) | assumption)
   have q7 : x7_1 < (t233.size : Int) := of_decide_eq_true (by first | (with_reducible assumption) | assumption)
   have hx7 := bt_at t233 x7_1
   replace p7 := eq_true p7
   replace q7 := eq_true q7
   go_wp2
   go_roundg k1
   case measure => have := HK1.out; omega
   case rel => exact ⟨(Go.bits .or .i64 (wrap64 (x6_1 * 256)) (wrap64 (bt t233 x7_1))), (wrap64 (x7_1 + 1)), (by first | rfl | (simp; done) | (simp [*]; done)), (by first | rfl | (simp; done) | (simp [*]; done)), H', ⟨by have := HK1.out; omega⟩, ⟨by repeat (first | (with_reducible first | exact HI0.out | apply IsS78.alloc | apply IsS78.drewN | apply IsS78.drew | apply IsS78.set_0 | apply IsS78.set_1) | exact HI0.out)⟩, ⟨by repeat (first | (with_reducible first | exact HK.out | apply KeepBut.set_ | apply keep_drewN | apply keep_drew | apply keep_alloc) | exact HK.out)⟩, ⟨by repeat (first | (with_reducible first | exact HB.out | apply below_alloc | apply pw_below_drewN | apply below_drew1 | refine below_set ?_ (IsS78.ge HI0.out)) | exact HB.out)⟩⟩


end Go.Proofs.YtblmbbllfiigmaaDoor.PAll
