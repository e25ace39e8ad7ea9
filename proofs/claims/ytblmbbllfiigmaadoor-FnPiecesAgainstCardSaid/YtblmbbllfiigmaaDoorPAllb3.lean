-- Printed by a program, out of the translation.
import Derived.Test.YtblmbbllfiigmaaDoorPAllb0
import Derived.Test.YtblmbbllfiigmaaDoorPAllb2
import Derived.Test.YtblmbbllfiigmaaDoorPcs
namespace Go.Proofs.YtblmbbllfiigmaaDoor.PAll
open Go.RowKit Go.Proofs.YtblmbbllfiigmaaDoorW.PrintWords Go.Proofs.YtblmbbllfiigmaaDoorW.PrintLast Go.Proofs.YtblmbbllfiigmaaDoorW.PrintMore
attribute [local go_sem] max2_int min2_int max_two min_two max_three min_three max_four min_four   -- for this text's walks alone
set_option linter.unusedVariables false
set_option linter.unusedSimpArgs false

/-! ### spec_FragmentsKnown: function 17 -/
noncomputable section
mutual
def spec_FragmentsKnown.l0 : Nat → List (S40) → List (S68) → Int → Int → Option (Bool)
 | 0, _, _, _, _ => none
 | k + 1, x0, x3, x4, x5 => if x5 < (x0.length : Int) then (if 0 ≤ x5 then (if ((rd_T40 x0 x5).f0 = true) then (if (((rd_T40 x0 x5).f1).size : Int) ≤ 13 then (spec_FragmentsKnown.j1 k x0 x3 x4 x5 true) else (if 1 < (((rd_T40 x0 x5).f1).size : Int) then (if (bt ((rd_T40 x0 x5).f1) 1) = 254 then (if 2 < (((rd_T40 x0 x5).f1).size : Int) then (spec_FragmentsKnown.j1 k x0 x3 x4 x5 ((bt ((rd_T40 x0 x5).f1) 2) != 253)) else (none)) else (spec_FragmentsKnown.j1 k x0 x3 x4 x5 true)) else (none))) else (spec_FragmentsKnown.l0 k x0 x3 x4 (wrap64 (x5 + 1)))) else (none)) else (if (x0.length : Int) ≤ 100 then (if x4 ≤ 20000 then (some (decide ((x3.length : Int) ≤ 500))) else (some false)) else (some false))
def spec_FragmentsKnown.j1 : Nat → List (S40) → List (S68) → Int → Int → Bool → Option (Bool)
 | 0, _, _, _, _, _ => none
 | k + 1, x0, x3, x4, x5, x46 => if x46 = true then (none) else (if 0 ≤ x5 then (if x5 < (x0.length : Int) then (if 0 < (((rd_T40 x0 x5).f1).size : Int) then (if (bt ((rd_T40 x0 x5).f1) 0) = 22 then ((spec_pieces.f k ((rd_T40 x0 x5).f1)).bind fun bt247 => (if bt247.2 = true then (if 11 < (((rd_T40 x0 x5).f1).size : Int) then (if 12 < (((rd_T40 x0 x5).f1).size : Int) then (spec_FragmentsKnown.j2 k x0 x3 (wrap64 (x4 + (((rd_T40 x0 x5).f1).size : Int))) x5 bt247.1 ((Go.bits .or .i64 (wrap64 ((wrap64 (bt ((rd_T40 x0 x5).f1) 11)) * 256)) (wrap64 (bt ((rd_T40 x0 x5).f1) 12))) != (wrap64 ((((rd_T40 x0 x5).f1).size : Int) - 13)))) else (none)) else (none)) else (spec_FragmentsKnown.j2 k x0 x3 (wrap64 (x4 + (((rd_T40 x0 x5).f1).size : Int))) x5 bt247.1 true))) else (if (bt ((rd_T40 x0 x5).f1) 0) < 20 then (none) else (if (bt ((rd_T40 x0 x5).f1) 0) > 23 then (none) else (spec_FragmentsKnown.l0 k x0 x3 (wrap64 (x4 + (((rd_T40 x0 x5).f1).size : Int))) (wrap64 (x5 + 1)))))) else (none)) else (none)) else (none))
def spec_FragmentsKnown.j2 : Nat → List (S40) → List (S68) → Int → Int → List (S68) → Bool → Option (Bool)
 | 0, _, _, _, _, _, _ => none
 | k + 1, x0, x3, x4, x5, x6, x114 => if x114 = true then (none) else (spec_FragmentsKnown.l1 k x0 x3 x4 x5 x6 0)
def spec_FragmentsKnown.l1 : Nat → List (S40) → List (S68) → Int → Int → List (S68) → Int → Option (Bool)
 | 0, _, _, _, _, _, _ => none
 | k + 1, x0, x3, x4, x5, x6, x8 => if x8 < (x6.length : Int) then (if 0 ≤ x8 then (if ((rd_T68 x6 x8).f4).toList = ([] : List UInt8) then (spec_FragmentsKnown.j4 k x0 x3 x4 x5 x6 x8 (decide (((rd_T68 x6 x8).f1) > 0))) else (spec_FragmentsKnown.j4 k x0 x3 x4 x5 x6 x8 false)) else (none)) else (spec_FragmentsKnown.l0 k x0 x3 x4 (wrap64 (x5 + 1)))
def spec_FragmentsKnown.j4 : Nat → List (S40) → List (S68) → Int → Int → List (S68) → Int → Bool → Option (Bool)
 | 0, _, _, _, _, _, _, _ => none
 | k + 1, x0, x3, x4, x5, x6, x8, x134 => if x134 = true then (none) else (spec_FragmentsKnown.l2 k x0 x3 x4 x5 x6 x8 0)
def spec_FragmentsKnown.l2 : Nat → List (S40) → List (S68) → Int → Int → List (S68) → Int → Int → Option (Bool)
 | 0, _, _, _, _, _, _, _ => none
 | k + 1, x0, x3, x4, x5, x6, x8, x9 => if x9 < (x3.length : Int) then (if 0 ≤ x9 then (if 0 ≤ x8 then (if x8 < (x6.length : Int) then (if ((rd_T68 x3 x9).f2) = ((rd_T68 x6 x8).f2) then ((spec_alike.f k ((rd_T68 x3 x9).f0) ((rd_T68 x3 x9).f1) ((rd_T68 x3 x9).f2) ((rd_T68 x3 x9).f3) ((rd_T68 x3 x9).f4) ((rd_T68 x3 x9).f5) ((rd_T68 x6 x8).f0) ((rd_T68 x6 x8).f1) ((rd_T68 x6 x8).f2) ((rd_T68 x6 x8).f3) ((rd_T68 x6 x8).f4) ((rd_T68 x6 x8).f5)).bind fun t260 => (if t260 = true then (spec_FragmentsKnown.l2 k x0 x3 x4 x5 x6 x8 (wrap64 (x9 + 1))) else (none))) else (spec_FragmentsKnown.l2 k x0 x3 x4 x5 x6 x8 (wrap64 (x9 + 1)))) else (none)) else (none)) else (none)) else (if 0 ≤ x8 then (if x8 < (x6.length : Int) then (if x3.length < 2513169434916 then (spec_FragmentsKnown.l1 k x0 (x3 ++ [(⟨(rd_T68 x6 x8).f0, (rd_T68 x6 x8).f1, (rd_T68 x6 x8).f2, (rd_T68 x6 x8).f3, (rd_T68 x6 x8).f4, (rd_T68 x6 x8).f5⟩ : S68)]) x4 x5 x6 (wrap64 (x8 + 1))) else (none)) else (none)) else (none))
end
def spec_FragmentsKnown.f (k : Nat) (l0 : List (S40)) : Option (Bool) := spec_FragmentsKnown.l0 k l0 ([] : List (S68)) 0 0
def spec_FragmentsKnown.T14 : Bool × List (List Nat × List Nat) := (true, [([], []), ([0], [0]), ([1], [1]), ([2], [2]), ([2], [2]), ([3, 4, 2], [2, 3, 4]), ([5, 2], [2, 5]), ([6, 2], [2, 6]), ([7, 2], [2, 7]), ([8, 2], [2, 8]), ([9, 2], [2, 9]), ([2], [2]), ([2], [2]), ([11, 12, 2], [2, 11, 12]), ([13, 2], [2, 13]), ([14, 2], [2, 14]), ([15, 2], [2, 15]), ([16, 2], [2, 16]), ([10, 17, 2], [2, 10, 17]), ([2], [2]), ([2], [2]), ([19, 20, 2], [2, 19, 20]), ([21, 2], [2, 21]), ([22, 2], [2, 22]), ([23, 2], [2, 23]), ([24, 2], [2, 24]), ([18, 25, 2], [2, 18, 25]), ([2, 26], [2, 26])])
def spec_FragmentsKnown.B14 : List Nat := [0, 1, 3, 7, 7, 31, 63, 127, 255, 511, 1023, 7, 7, 6151, 14343, 30727, 63495, 129031, 262143, 7, 7, 1572871, 3670023, 7864327, 16252935, 33030151, 67108863, 134217727]
theorem spec_FragmentsKnown.tab14 : rtab .any (opsOf Tryd.f17 14) = spec_FragmentsKnown.T14 := by kernel_rfl
theorem spec_FragmentsKnown.bits14 : waitsOk spec_FragmentsKnown.T14.2 spec_FragmentsKnown.B14 = true := by kernel_rfl
def spec_FragmentsKnown.T24 : Bool × List (List Nat × List Nat) := (true, [([], []), ([], []), ([0, 1], [0, 1]), ([2], [2]), ([3], [3]), ([], []), ([], []), ([5, 6], [5, 6]), ([7], [7]), ([8], [8]), ([4, 9], [4, 9]), ([10], [10]), ([11], [11]), ([11], [11]), ([12, 13, 11], [11, 12, 13]), ([14, 11], [11, 14]), ([11], [11]), ([11], [11]), ([16, 17, 11], [11, 16, 17]), ([18, 11], [11, 18]), ([15, 19, 11, 11], [11, 15, 19]), ([20, 11], [11, 20]), ([11, 21], [11, 21])])
def spec_FragmentsKnown.B24 : List Nat := [0, 0, 3, 7, 15, 0, 0, 96, 224, 480, 1023, 2047, 4095, 4095, 16383, 32767, 4095, 4095, 200703, 462847, 1048575, 2097151, 4194303]
theorem spec_FragmentsKnown.tab24 : rtab .any (opsOf Tryd.f17 24) = spec_FragmentsKnown.T24 := by kernel_rfl
theorem spec_FragmentsKnown.bits24 : waitsOk spec_FragmentsKnown.T24.2 spec_FragmentsKnown.B24 = true := by kernel_rfl
end
set_option maxHeartbeats 200000000 in
set_option maxRecDepth 100000 in
theorem spec_FragmentsKnown.calls (k : Nat) (A0 : Option Addr) (c0 : Nat) (l0 : List (S40)) (r : Bool) (w : World) (hr0 : Kd.C k40 w A0 l0.length l0) (hc0 : l0.length ≤ c0) (h : spec_FragmentsKnown.f k l0 = some r) :
  Calls Tryd.prog 17 #[.slice A0 l0.length c0] w fun e w' => e = .returned (.bool r) ∧ Below w.heap.size w w' := by
 have hu68 := Tryd.underlying68
 have HR0 := Aside0.mk hr0
 have HC0 := Aside0.mk hc0
 clear hr0 hc0
 have HB := Aside0.mk (Below.refl w.heap.size w)
 have H : (spec_FragmentsKnown.l0 k l0 ([] : List (S68)) 0 0) = some r := h
 clear h
 have H' := Aside0.mk H
 clear H
 go_enter Tryd.func17, Tryd.ntmps17
 go_wp2
 go_loopg [3, 4, 5] k (fun kq v3 v4 v5 w' => ∃ (x3_1 : List (S68)) (x4_1 : Int) (x5_1 : Int), v4 = .int .i64 x4_1 ∧ v5 = .int .i64 x5_1 ∧ Aside0 (spec_FragmentsKnown.l0 kq l0 x3_1 x4_1 x5_1 = some r) ∧ Aside0 (kq ≤ k) ∧ Aside0 (Kd.R k68 68 w' w.heap.size (fun _ => True) v3 x3_1) ∧ Aside0 (Below w.heap.size w w'))
 case atStart => exact ⟨(([] : List (S68))), (0), (0), (by first | rfl | (simp; done) | (simp [*]; done)), (by first | rfl | (simp; done) | (simp [*]; done)), H', ⟨Nat.le_refl _⟩, ⟨by first | exact Kd.R_nil _ _ _ _ _ | exact Kd.N_nil _ _ _ _ _ | exact Kd.V_nil _ _ _ _ _ | exact Kd.Q_nil _ _ _ _ _ | exact Kd.S_nil _ _ _ _ _⟩, ⟨by repeat (first | (with_reducible first | exact HB.out | apply below_alloc | apply pw_below_drewN | apply below_drew1) | exact HB.out)⟩⟩
 case round =>
  clear H'
  try clear c1
  obtain ⟨x3_1, x4_1, x5_1, rfl, rfl, HA, HK1, HO_3, HB⟩ := hrel
  cases gk with
  | zero => exact absurd HA.out (by simp [spec_FragmentsKnown.l0])
  | succ k1 =>
   have H := HA.out
   clear HA
   simp only [spec_FragmentsKnown.l0] at H
   by_cases c2 : x5_1 < (l0.length : Int)
   rotate_left
   ·rw [if_neg c2] at H
    have c2b0 : decide (x5_1 < (l0.length : Int)) = false := decide_eq_false c2
    clear c2
    by_cases c58 : (l0.length : Int) ≤ 100
    rotate_left
    ·rw [if_neg c58] at H
     have c58b0 : decide ((l0.length : Int) ≤ 100) = false := decide_eq_false c58
     have c58b1 : decide (l0.length ≤ 100) = false := decide_eq_false (by omega)
     clear c58
     obtain rfl := Option.some.inj H
     go_wp2
     go_ret
     exact ⟨by first | rfl | (simp [errW_none, errW_some] <;> rfl) | (simp [*, errW_none, errW_some] <;> rfl), by repeat (first | (with_reducible first | exact HB.out | apply below_alloc | apply pw_below_drewN | apply below_drew1) | exact HB.out)⟩
    rw [if_pos c58] at H
    have c58b0 : decide ((l0.length : Int) ≤ 100) = true := decide_eq_true c58
    have c58b1 : decide (l0.length ≤ 100) = true := decide_eq_true (by omega)
    clear c58
    by_cases c59 : x4_1 ≤ 20000
    rotate_left
    ·rw [if_neg c59] at H
     have c59b0 : decide (x4_1 ≤ 20000) = false := decide_eq_false c59
     clear c59
     obtain rfl := Option.some.inj H
     go_wp2
     go_ret
     exact ⟨by first | rfl | (simp [errW_none, errW_some] <;> rfl) | (simp [*, errW_none, errW_some] <;> rfl), by repeat (first | (with_reducible first | exact HB.out | apply below_alloc | apply pw_below_drewN | apply below_drew1) | exact HB.out)⟩
    rw [if_pos c59] at H
    have c59b0 : decide (x4_1 ≤ 20000) = true := decide_eq_true c59
    clear c59
    obtain rfl := Option.some.inj H
    obtain ⟨Ao60, co60, eo60⟩ := Kd.R_slice HO_3.out
    subst eo60
    go_wp2
    go_ret
    exact ⟨by first | rfl | (simp [errW_none, errW_some] <;> rfl) | (simp [*, errW_none, errW_some] <;> rfl), by repeat (first | (with_reducible first | exact HB.out | apply below_alloc | apply pw_below_drewN | apply below_drew1) | exact HB.out)⟩
   rw [if_pos c2] at H
   have c2b0 : decide (x5_1 < (l0.length : Int)) = true := decide_eq_true c2
   clear c2
   by_cases c3 : 0 ≤ x5_1
   rotate_left
   ·rw [if_neg c3] at H
    exact absurd H (by simp)
   rw [if_pos c3] at H
   have c3b0 : decide (0 ≤ x5_1) = true := decide_eq_true c3
   clear c3
   obtain ⟨bq4, hbq4⟩ : ∃ b_ : Bool, b_ = ((rd_T40 l0 x5_1).f0) := ⟨_, rfl⟩
   replace H : (if (bq4 = true) then (if (((rd_T40 l0 x5_1).f1).size : Int) ≤ 13 then (spec_FragmentsKnown.j1 k1 l0 x3_1 x4_1 x5_1 true) else (if 1 < (((rd_T40 l0 x5_1).f1).size : Int) then (if (bt ((rd_T40 l0 x5_1).f1) 1) = 254 then (if 2 < (((rd_T40 l0 x5_1).f1).size : Int) then (spec_FragmentsKnown.j1 k1 l0 x3_1 x4_1 x5_1 ((bt ((rd_T40 l0 x5_1).f1) 2) != 253)) else (none)) else (spec_FragmentsKnown.j1 k1 l0 x3_1 x4_1 x5_1 true)) else (none))) else (spec_FragmentsKnown.l0 k1 l0 x3_1 x4_1 (wrap64 (x5_1 + 1)))) = some r := by rw [← hbq4] at H; exact H
   have Nbq4 := Aside0.mk hbq4
   clear hbq4
   by_cases c5 : (bq4 = true)
   rotate_left
   ·replace c5 := Bool.eq_false_iff.mpr c5
    subst c5
    have H1 : (spec_FragmentsKnown.l0 k1 l0 x3_1 x4_1 (wrap64 (x5_1 + 1))) = some r := by rw [if_neg (show ¬ (false = true) by decide)] at H; exact H
    clear H
    have H := H1
    clear H1
    have H' := Aside0.mk H
    clear H
    have p238 : 0 ≤ (x5_1 : Int) := of_decide_eq_true (by first | (with_reducible assumption) | assumption)
    have q238 : x5_1 < (l0.length : Int) := of_decide_eq_true (by first | (with_reducible assumption) | assumption)
    obtain ⟨ad238, e238, hx238_0, hx238_1⟩ := at_T40 HR0.out x5_1 p238 q238
    (try rw [← Nbq4.out] at hx238_0)
    cases e238
    replace hx238_0 := (HB.out.cell (World.block_lt_of_cell? w _ hx238_0)).trans hx238_0
    replace hx238_1 := (HB.out.cell (World.block_lt_of_cell? w _ hx238_1)).trans hx238_1
    replace p238 := eq_true p238
    replace q238 := eq_true q238
    go_wp2
    go_roundg k1
    case measure => have := HK1.out; omega
    case rel => exact ⟨(x3_1), (x4_1), (wrap64 (x5_1 + 1)), (by first | rfl | (simp; done) | (simp [*]; done)), (by first | rfl | (simp; done) | (simp [*]; done)), H', ⟨by have := HK1.out; omega⟩, ⟨by (with_reducible repeat (first | apply Kd.R_alloc | apply Kd.R_drewN | apply Kd.R_drew)); exact HO_3.out⟩, ⟨by repeat (first | (with_reducible first | exact HB.out | apply below_alloc | apply pw_below_drewN | apply below_drew1) | exact HB.out)⟩⟩
   subst c5
   have H1 : (if (((rd_T40 l0 x5_1).f1).size : Int) ≤ 13 then (spec_FragmentsKnown.j1 k1 l0 x3_1 x4_1 x5_1 true) else (if 1 < (((rd_T40 l0 x5_1).f1).size : Int) then (if (bt ((rd_T40 l0 x5_1).f1) 1) = 254 then (if 2 < (((rd_T40 l0 x5_1).f1).size : Int) then (spec_FragmentsKnown.j1 k1 l0 x3_1 x4_1 x5_1 ((bt ((rd_T40 l0 x5_1).f1) 2) != 253)) else (none)) else (spec_FragmentsKnown.j1 k1 l0 x3_1 x4_1 x5_1 true)) else (none))) = some r := by rw [if_pos rfl] at H; exact H
   clear H
   have H := H1
   clear H1
   have HC6 := Aside0.mk H
   clear H
   have p238 : 0 ≤ (x5_1 : Int) := of_decide_eq_true (by first | (with_reducible assumption) | assumption)
   have q238 : x5_1 < (l0.length : Int) := of_decide_eq_true (by first | (with_reducible assumption) | assumption)
   obtain ⟨ad238, e238, hx238_0, hx238_1⟩ := at_T40 HR0.out x5_1 p238 q238
   (try rw [← Nbq4.out] at hx238_0)
   cases e238
   replace hx238_0 := (HB.out.cell (World.block_lt_of_cell? w _ hx238_0)).trans hx238_0
   replace hx238_1 := (HB.out.cell (World.block_lt_of_cell? w _ hx238_1)).trans hx238_1
   replace p238 := eq_true p238
   replace q238 := eq_true q238
   go_upto_region 7 with (fail)
   go_cut [46] (fun v46 wc => ∃ (kq : Nat) (x46_5 : Bool), v46 = .bool x46_5 ∧ Aside0 (spec_FragmentsKnown.j1 kq l0 x3_1 x4_1 x5_1 x46_5 = some r) ∧ Aside0 (kq ≤ k1) ∧ Aside0 (Kd.R k68 68 wc w.heap.size (fun _ => True) u3 x3_1) ∧ Aside0 (Below w.heap.size w wc))
   case first => as_aux_lemma =>
    have H := HC6.out
    clear HC6
    by_cases c7 : (((rd_T40 l0 x5_1).f1).size : Int) ≤ 13
    ·rw [if_pos c7] at H
     have c7b0 : decide ((((rd_T40 l0 x5_1).f1).size : Int) ≤ 13) = true := decide_eq_true c7
     have c7b1 : decide (((rd_T40 l0 x5_1).f1).size ≤ 13) = true := decide_eq_true (by omega)
     clear c7
     (first | rw [c7b0] | (simp only [i64_w, i32_w]; rw [c7b0]) | skip)
     have H' := Aside0.mk H
     clear H
     have p239 : 0 ≤ (x5_1 : Int) := of_decide_eq_true (by first | (with_reducible assumption) | assumption)
     have q239 : x5_1 < (l0.length : Int) := of_decide_eq_true (by first | (with_reducible assumption) | assumption)
     obtain ⟨ad239, e239, hx239_0, hx239_1⟩ := at_T40 HR0.out x5_1 p239 q239
     (try rw [← Nbq4.out] at hx239_0)
     obtain rfl : ad238 = ad239 := (by injection e239)
     replace hx239_0 := (HB.out.cell (World.block_lt_of_cell? w _ hx239_0)).trans hx239_0
     replace hx239_1 := (HB.out.cell (World.block_lt_of_cell? w _ hx239_1)).trans hx239_1
     replace p239 := eq_true p239
     replace q239 := eq_true q239
     go_wp2
     go_meet
     case rel => exact ⟨_, (true), (by first | rfl | (simp; done) | (simp [*]; done)), H', ⟨by have := HK1.out; first | omega | exact Nat.le_refl _⟩, ⟨by (with_reducible repeat (first | apply Kd.R_alloc | apply Kd.R_drewN | apply Kd.R_drew)); exact HO_3.out⟩, ⟨by repeat (first | (with_reducible first | exact HB.out | apply below_alloc | apply pw_below_drewN | apply below_drew1) | exact HB.out)⟩⟩
    rw [if_neg c7] at H
    have c7b0 : decide ((((rd_T40 l0 x5_1).f1).size : Int) ≤ 13) = false := decide_eq_false c7
    have c7b1 : decide (((rd_T40 l0 x5_1).f1).size ≤ 13) = false := decide_eq_false (by omega)
    clear c7
    (first | rw [c7b0] | (simp only [i64_w, i32_w]; rw [c7b0]) | skip)
    by_cases c8 : 1 < (((rd_T40 l0 x5_1).f1).size : Int)
    rotate_left
    ·rw [if_neg c8] at H
     exact absurd H (by simp)
    rw [if_pos c8] at H
    have c8b0 : decide (1 < (((rd_T40 l0 x5_1).f1).size : Int)) = true := decide_eq_true c8
    have c8b1 : decide (1 < ((rd_T40 l0 x5_1).f1).size) = true := decide_eq_true (by omega)
    clear c8
    by_cases c10 : (bt ((rd_T40 l0 x5_1).f1) 1) = 254
    rotate_left
    ·rw [if_neg c10] at H
     have c10b0 : ((bt ((rd_T40 l0 x5_1).f1) 1) == 254) = false := beq_eq_false_iff_ne.mpr c10
     have c10b1 : ((bt ((rd_T40 l0 x5_1).f1) 1) != 254) = true := bne_iff_ne.mpr c10
     have H' := Aside0.mk H
     clear H
     have p239 : 0 ≤ (x5_1 : Int) := of_decide_eq_true (by first | (with_reducible assumption) | assumption)
     have q239 : x5_1 < (l0.length : Int) := of_decide_eq_true (by first | (with_reducible assumption) | assumption)
     obtain ⟨ad239, e239, hx239_0, hx239_1⟩ := at_T40 HR0.out x5_1 p239 q239
     (try rw [← Nbq4.out] at hx239_0)
     obtain rfl : ad238 = ad239 := (by injection e239)
     replace hx239_0 := (HB.out.cell (World.block_lt_of_cell? w _ hx239_0)).trans hx239_0
     replace hx239_1 := (HB.out.cell (World.block_lt_of_cell? w _ hx239_1)).trans hx239_1
     replace p239 := eq_true p239
     replace q239 := eq_true q239
     have p240 : 0 ≤ (x5_1 : Int) := of_decide_eq_true (by first | (with_reducible assumption) | assumption)
     have q240 : x5_1 < (l0.length : Int) := of_decide_eq_true (by first | (with_reducible assumption) | assumption)
     obtain ⟨ad240, e240, hx240_0, hx240_1⟩ := at_T40 HR0.out x5_1 p240 q240
     (try rw [← Nbq4.out] at hx240_0)
     obtain rfl : ad238 = ad240 := (by injection e240)
     replace hx240_0 := (HB.out.cell (World.block_lt_of_cell? w _ hx240_0)).trans hx240_0
     replace hx240_1 := (HB.out.cell (World.block_lt_of_cell? w _ hx240_1)).trans hx240_1
     replace p240 := eq_true p240
     replace q240 := eq_true q240
     have p9 : 0 ≤ (1 : Int) := (by omega)
     have q9 : 1 < ((rd_T40 l0 x5_1).f1).size := (by have : (1 : Int) < (((rd_T40 l0 x5_1).f1).size : Int) := of_decide_eq_true (by first | (with_reducible assumption) | assumption); omega)
     have hx9 : ∀ h : 1 < ((rd_T40 l0 x5_1).f1).size, ((((rd_T40 l0 x5_1).f1)[1]'h).toNat : Int) = bt ((rd_T40 l0 x5_1).f1) 1 := bt_at ((rd_T40 l0 x5_1).f1) 1
     clear p9
     have qi9 : (1 < (((rd_T40 l0 x5_1).f1).size : Int)) = True := eq_true (of_decide_eq_true (by first | (with_reducible assumption) | assumption))
     replace q9 := eq_true q9
     go_wp2
     go_meet
     case rel => exact ⟨_, (true), (by first | rfl | (simp; done) | (simp [*]; done)), H', ⟨by have := HK1.out; first | omega | exact Nat.le_refl _⟩, ⟨by (with_reducible repeat (first | apply Kd.R_alloc | apply Kd.R_drewN | apply Kd.R_drew)); exact HO_3.out⟩, ⟨by repeat (first | (with_reducible first | exact HB.out | apply below_alloc | apply pw_below_drewN | apply below_drew1) | exact HB.out)⟩⟩
    rw [if_pos c10] at H
    have c10b0 : ((bt ((rd_T40 l0 x5_1).f1) 1) == 254) = true := beq_iff_eq.mpr c10
    have c10b1 : ((bt ((rd_T40 l0 x5_1).f1) 1) != 254) = false := bne_eq_false_iff_eq.mpr c10
    clear c10
    by_cases c11 : 2 < (((rd_T40 l0 x5_1).f1).size : Int)
    rotate_left
    ·rw [if_neg c11] at H
     exact absurd H (by simp)
    rw [if_pos c11] at H
    have c11b0 : decide (2 < (((rd_T40 l0 x5_1).f1).size : Int)) = true := decide_eq_true c11
    have c11b1 : decide (2 < ((rd_T40 l0 x5_1).f1).size) = true := decide_eq_true (by omega)
    clear c11
    have H' := Aside0.mk H
    clear H
    have p239 : 0 ≤ (x5_1 : Int) := of_decide_eq_true (by first | (with_reducible assumption) | assumption)
    have q239 : x5_1 < (l0.length : Int) := of_decide_eq_true (by first | (with_reducible assumption) | assumption)
    obtain ⟨ad239, e239, hx239_0, hx239_1⟩ := at_T40 HR0.out x5_1 p239 q239
    (try rw [← Nbq4.out] at hx239_0)
    obtain rfl : ad238 = ad239 := (by injection e239)
    replace hx239_0 := (HB.out.cell (World.block_lt_of_cell? w _ hx239_0)).trans hx239_0
    replace hx239_1 := (HB.out.cell (World.block_lt_of_cell? w _ hx239_1)).trans hx239_1
    replace p239 := eq_true p239
    replace q239 := eq_true q239
    have p240 : 0 ≤ (x5_1 : Int) := of_decide_eq_true (by first | (with_reducible assumption) | assumption)
    have q240 : x5_1 < (l0.length : Int) := of_decide_eq_true (by first | (with_reducible assumption) | assumption)
    obtain ⟨ad240, e240, hx240_0, hx240_1⟩ := at_T40 HR0.out x5_1 p240 q240
    (try rw [← Nbq4.out] at hx240_0)
    obtain rfl : ad238 = ad240 := (by injection e240)
    replace hx240_0 := (HB.out.cell (World.block_lt_of_cell? w _ hx240_0)).trans hx240_0
    replace hx240_1 := (HB.out.cell (World.block_lt_of_cell? w _ hx240_1)).trans hx240_1
    replace p240 := eq_true p240
    replace q240 := eq_true q240
    have p9 : 0 ≤ (1 : Int) := (by omega)
    have q9 : 1 < ((rd_T40 l0 x5_1).f1).size := (by have : (1 : Int) < (((rd_T40 l0 x5_1).f1).size : Int) := of_decide_eq_true (by first | (with_reducible assumption) | assumption); omega)
    have hx9 : ∀ h : 1 < ((rd_T40 l0 x5_1).f1).size, ((((rd_T40 l0 x5_1).f1)[1]'h).toNat : Int) = bt ((rd_T40 l0 x5_1).f1) 1 := bt_at ((rd_T40 l0 x5_1).f1) 1
    clear p9
    have qi9 : (1 < (((rd_T40 l0 x5_1).f1).size : Int)) = True := eq_true (of_decide_eq_true (by first | (with_reducible assumption) | assumption))
    replace q9 := eq_true q9
    have p241 : 0 ≤ (x5_1 : Int) := of_decide_eq_true (by first | (with_reducible assumption) | assumption)
    have q241 : x5_1 < (l0.length : Int) := of_decide_eq_true (by first | (with_reducible assumption) | assumption)
    obtain ⟨ad241, e241, hx241_0, hx241_1⟩ := at_T40 HR0.out x5_1 p241 q241
    (try rw [← Nbq4.out] at hx241_0)
    obtain rfl : ad238 = ad241 := (by injection e241)
    replace hx241_0 := (HB.out.cell (World.block_lt_of_cell? w _ hx241_0)).trans hx241_0
    replace hx241_1 := (HB.out.cell (World.block_lt_of_cell? w _ hx241_1)).trans hx241_1
    replace p241 := eq_true p241
    replace q241 := eq_true q241
    have p12 : 0 ≤ (2 : Int) := (by omega)
    have q12 : 2 < ((rd_T40 l0 x5_1).f1).size := (by have : (2 : Int) < (((rd_T40 l0 x5_1).f1).size : Int) := of_decide_eq_true (by first | (with_reducible assumption) | assumption); omega)
    have hx12 : ∀ h : 2 < ((rd_T40 l0 x5_1).f1).size, ((((rd_T40 l0 x5_1).f1)[2]'h).toNat : Int) = bt ((rd_T40 l0 x5_1).f1) 2 := bt_at ((rd_T40 l0 x5_1).f1) 2
    clear p12
    have qi12 : (2 < (((rd_T40 l0 x5_1).f1).size : Int)) = True := eq_true (of_decide_eq_true (by first | (with_reducible assumption) | assumption))
    replace q12 := eq_true q12
    go_wp2
    go_meet
    case rel => exact ⟨_, (((bt ((rd_T40 l0 x5_1).f1) 2) != 253)), (by first | rfl | (simp; done) | (simp [*]; done)), H', ⟨by have := HK1.out; first | omega | exact Nat.le_refl _⟩, ⟨by (with_reducible repeat (first | apply Kd.R_alloc | apply Kd.R_drewN | apply Kd.R_drew)); exact HO_3.out⟩, ⟨by repeat (first | (with_reducible first | exact HB.out | apply below_alloc | apply pw_below_drewN | apply below_drew1) | exact HB.out)⟩⟩
   case rest =>
    clear HC6
    try clear c1
    try clear p1
    try clear q1
    try clear hx1
    try clear qi1
    try clear c2
    try clear c2b0
    try clear p2
    try clear q2
    try clear hx2
    try clear c3
    try clear c3b0
    try clear q4
    try clear c5
    try clear p6
    try clear c7
    try clear c7b0
    try clear c7b1
    try clear c8
    try clear c8b0
    try clear c8b1
    try clear p9
    try clear q9
    try clear hx9
    try clear qi9
    try clear c10
    try clear c10b0
    try clear c10b1
    try clear c11
    try clear c11b0
    try clear c11b1
    try clear p12
    try clear q12
    try clear hx12
    try clear qi12
    try clear hx238_0
    try clear hx238_1
    try clear hx239_0
    try clear hx239_1
    try clear hx240_0
    try clear hx240_1
    try clear hx241_0
    try clear hx241_1
    try clear p12
    try clear p238
    try clear p239
    try clear p240
    try clear p241
    try clear p9
    try clear q12
    try clear q238
    try clear q239
    try clear q240
    try clear q241
    try clear q9
    obtain ⟨kq, x46_5, rfl, HA, HJ5, HO_3, HB⟩ := hcut
    cases kq with
    | zero => exact absurd HA.out (by simp [spec_FragmentsKnown.j1])
    | succ kj5 =>
     have H := HA.out
     clear HA
     simp only [spec_FragmentsKnown.j1] at H
     by_cases c13 : x46_5 = true
     ·subst c13
      have H1 : (none) = some r := by rw [if_pos rfl] at H; exact H
      clear H
      have H := H1
      clear H1
      exact absurd H (by simp)
     replace c13 := Bool.eq_false_iff.mpr c13
     subst c13
     have H1 : (if 0 ≤ x5_1 then (if x5_1 < (l0.length : Int) then (if 0 < (((rd_T40 l0 x5_1).f1).size : Int) then (if (bt ((rd_T40 l0 x5_1).f1) 0) = 22 then ((spec_pieces.f kj5 ((rd_T40 l0 x5_1).f1)).bind fun bt247 => (if bt247.2 = true then (if 11 < (((rd_T40 l0 x5_1).f1).size : Int) then (if 12 < (((rd_T40 l0 x5_1).f1).size : Int) then (spec_FragmentsKnown.j2 kj5 l0 x3_1 (wrap64 (x4_1 + (((rd_T40 l0 x5_1).f1).size : Int))) x5_1 bt247.1 ((Go.bits .or .i64 (wrap64 ((wrap64 (bt ((rd_T40 l0 x5_1).f1) 11)) * 256)) (wrap64 (bt ((rd_T40 l0 x5_1).f1) 12))) != (wrap64 ((((rd_T40 l0 x5_1).f1).size : Int) - 13)))) else (none)) else (none)) else (spec_FragmentsKnown.j2 kj5 l0 x3_1 (wrap64 (x4_1 + (((rd_T40 l0 x5_1).f1).size : Int))) x5_1 bt247.1 true))) else (if (bt ((rd_T40 l0 x5_1).f1) 0) < 20 then (none) else (if (bt ((rd_T40 l0 x5_1).f1) 0) > 23 then (none) else (spec_FragmentsKnown.l0 kj5 l0 x3_1 (wrap64 (x4_1 + (((rd_T40 l0 x5_1).f1).size : Int))) (wrap64 (x5_1 + 1)))))) else (none)) else (none)) else (none)) = some r := by rw [if_neg (show ¬ (false = true) by decide)] at H; exact H
     clear H
     have H := H1
     clear H1
     by_cases c14 : 0 ≤ x5_1
     rotate_left
     ·rw [if_neg c14] at H
      exact absurd H (by simp)
     rw [if_pos c14] at H
     have c14b0 : decide (0 ≤ x5_1) = true := decide_eq_true c14
     clear c14
     by_cases c15 : x5_1 < (l0.length : Int)
     rotate_left
     ·rw [if_neg c15] at H
      exact absurd H (by simp)
     rw [if_pos c15] at H
     have c15b0 : decide (x5_1 < (l0.length : Int)) = true := decide_eq_true c15
     clear c15
     by_cases c16 : 0 < (((rd_T40 l0 x5_1).f1).size : Int)
     rotate_left
     ·rw [if_neg c16] at H
      exact absurd H (by simp)
     rw [if_pos c16] at H
     have c16b0 : decide (0 < (((rd_T40 l0 x5_1).f1).size : Int)) = true := decide_eq_true c16
     have c16b1 : decide (0 < ((rd_T40 l0 x5_1).f1).size) = true := decide_eq_true (by omega)
     clear c16
     by_cases c18 : (bt ((rd_T40 l0 x5_1).f1) 0) = 22
     rotate_left
     ·rw [if_neg c18] at H
      have c18b0 : ((bt ((rd_T40 l0 x5_1).f1) 0) == 22) = false := beq_eq_false_iff_ne.mpr c18
      have c18b1 : ((bt ((rd_T40 l0 x5_1).f1) 0) != 22) = true := bne_iff_ne.mpr c18
      by_cases c55 : (bt ((rd_T40 l0 x5_1).f1) 0) < 20
      ·rw [if_pos c55] at H
       exact absurd H (by simp)
      rw [if_neg c55] at H
      have c55b0 : decide ((bt ((rd_T40 l0 x5_1).f1) 0) < 20) = false := decide_eq_false c55
      clear c55
      by_cases c57 : (bt ((rd_T40 l0 x5_1).f1) 0) > 23
      ·rw [if_pos c57] at H
       exact absurd H (by simp)
      rw [if_neg c57] at H
      have c57b0 : decide (23 < (bt ((rd_T40 l0 x5_1).f1) 0)) = false := decide_eq_false c57
      clear c57
      have H' := Aside0.mk H
      clear H
      have p242 : 0 ≤ (x5_1 : Int) := of_decide_eq_true (by first | (with_reducible assumption) | assumption)
      have q242 : x5_1 < (l0.length : Int) := of_decide_eq_true (by first | (with_reducible assumption) | assumption)
      obtain ⟨ad242, e242, hx242_0, hx242_1⟩ := at_T40 HR0.out x5_1 p242 q242
      (try rw [← Nbq4.out] at hx242_0)
      obtain rfl : ad238 = ad242 := (by injection e242)
      replace hx242_0 := (HB.out.cell (World.block_lt_of_cell? w _ hx242_0)).trans hx242_0
      replace hx242_1 := (HB.out.cell (World.block_lt_of_cell? w _ hx242_1)).trans hx242_1
      replace p242 := eq_true p242
      replace q242 := eq_true q242
      have p243 : 0 ≤ (x5_1 : Int) := of_decide_eq_true (by first | (with_reducible assumption) | assumption)
      have q243 : x5_1 < (l0.length : Int) := of_decide_eq_true (by first | (with_reducible assumption) | assumption)
      obtain ⟨ad243, e243, hx243_0, hx243_1⟩ := at_T40 HR0.out x5_1 p243 q243
      (try rw [← Nbq4.out] at hx243_0)
      obtain rfl : ad238 = ad243 := (by injection e243)
      replace hx243_0 := (HB.out.cell (World.block_lt_of_cell? w _ hx243_0)).trans hx243_0
      replace hx243_1 := (HB.out.cell (World.block_lt_of_cell? w _ hx243_1)).trans hx243_1
      replace p243 := eq_true p243
      replace q243 := eq_true q243
      have p17 : 0 ≤ (0 : Int) := (by omega)
      have q17 : 0 < ((rd_T40 l0 x5_1).f1).size := (by have : (0 : Int) < (((rd_T40 l0 x5_1).f1).size : Int) := of_decide_eq_true (by first | (with_reducible assumption) | assumption); omega)
      have hx17 : ∀ h : 0 < ((rd_T40 l0 x5_1).f1).size, ((((rd_T40 l0 x5_1).f1)[0]'h).toNat : Int) = bt ((rd_T40 l0 x5_1).f1) 0 := bt_at ((rd_T40 l0 x5_1).f1) 0
      clear p17
      have qi17 : (0 < (((rd_T40 l0 x5_1).f1).size : Int)) = True := eq_true (of_decide_eq_true (by first | (with_reducible assumption) | assumption))
      replace q17 := eq_true q17
      have p244 : 0 ≤ (x5_1 : Int) := of_decide_eq_true (by first | (with_reducible assumption) | assumption)
      have q244 : x5_1 < (l0.length : Int) := of_decide_eq_true (by first | (with_reducible assumption) | assumption)
      obtain ⟨ad244, e244, hx244_0, hx244_1⟩ := at_T40 HR0.out x5_1 p244 q244
      (try rw [← Nbq4.out] at hx244_0)
      obtain rfl : ad238 = ad244 := (by injection e244)
      replace hx244_0 := (HB.out.cell (World.block_lt_of_cell? w _ hx244_0)).trans hx244_0
      replace hx244_1 := (HB.out.cell (World.block_lt_of_cell? w _ hx244_1)).trans hx244_1
      replace p244 := eq_true p244
      replace q244 := eq_true q244
      have p54 : 0 ≤ (0 : Int) := (by omega)
      have q54 : 0 < ((rd_T40 l0 x5_1).f1).size := (by have : (0 : Int) < (((rd_T40 l0 x5_1).f1).size : Int) := of_decide_eq_true (by first | (with_reducible assumption) | assumption); omega)
      have hx54 : ∀ h : 0 < ((rd_T40 l0 x5_1).f1).size, ((((rd_T40 l0 x5_1).f1)[0]'h).toNat : Int) = bt ((rd_T40 l0 x5_1).f1) 0 := bt_at ((rd_T40 l0 x5_1).f1) 0
      clear p54
      have qi54 : (0 < (((rd_T40 l0 x5_1).f1).size : Int)) = True := eq_true (of_decide_eq_true (by first | (with_reducible assumption) | assumption))
      replace q54 := eq_true q54
      have p245 : 0 ≤ (x5_1 : Int) := of_decide_eq_true (by first | (with_reducible assumption) | assumption)
      have q245 : x5_1 < (l0.length : Int) := of_decide_eq_true (by first | (with_reducible assumption) | assumption)
      obtain ⟨ad245, e245, hx245_0, hx245_1⟩ := at_T40 HR0.out x5_1 p245 q245
      (try rw [← Nbq4.out] at hx245_0)
      obtain rfl : ad238 = ad245 := (by injection e245)
      replace hx245_0 := (HB.out.cell (World.block_lt_of_cell? w _ hx245_0)).trans hx245_0
      replace hx245_1 := (HB.out.cell (World.block_lt_of_cell? w _ hx245_1)).trans hx245_1
      replace p245 := eq_true p245
      replace q245 := eq_true q245
      have p56 : 0 ≤ (0 : Int) := (by omega)
      have q56 : 0 < ((rd_T40 l0 x5_1).f1).size := (by have : (0 : Int) < (((rd_T40 l0 x5_1).f1).size : Int) := of_decide_eq_true (by first | (with_reducible assumption) | assumption); omega)
      have hx56 : ∀ h : 0 < ((rd_T40 l0 x5_1).f1).size, ((((rd_T40 l0 x5_1).f1)[0]'h).toNat : Int) = bt ((rd_T40 l0 x5_1).f1) 0 := bt_at ((rd_T40 l0 x5_1).f1) 0
      clear p56
      have qi56 : (0 < (((rd_T40 l0 x5_1).f1).size : Int)) = True := eq_true (of_decide_eq_true (by first | (with_reducible assumption) | assumption))
      replace q56 := eq_true q56
      go_wp2
      go_roundg kj5
      case measure => have := HK1.out; have := HJ5.out; omega
      case rel => exact ⟨(x3_1), (wrap64 (x4_1 + (((rd_T40 l0 x5_1).f1).size : Int))), (wrap64 (x5_1 + 1)), (by first | rfl | (simp; done) | (simp [*]; done)), (by first | rfl | (simp; done) | (simp [*]; done)), H', ⟨by have := HK1.out; have := HJ5.out; omega⟩, ⟨by (with_reducible repeat (first | apply Kd.R_alloc | apply Kd.R_drewN | apply Kd.R_drew)); exact HO_3.out⟩, ⟨by repeat (first | (with_reducible first | exact HB.out | apply below_alloc | apply pw_below_drewN | apply below_drew1) | exact HB.out)⟩⟩
     rw [if_pos c18] at H
     have c18b0 : ((bt ((rd_T40 l0 x5_1).f1) 0) == 22) = true := beq_iff_eq.mpr c18
     have c18b1 : ((bt ((rd_T40 l0 x5_1).f1) 0) != 22) = false := bne_eq_false_iff_eq.mpr c18
     clear c18
     replace H := Option.bind_eq_some_iff.mp H
     obtain ⟨⟨t247, t248⟩, A190, H⟩ := H
     replace H : (if t248 = true then (if 11 < (((rd_T40 l0 x5_1).f1).size : Int) then (if 12 < (((rd_T40 l0 x5_1).f1).size : Int) then (spec_FragmentsKnown.j2 kj5 l0 x3_1 (wrap64 (x4_1 + (((rd_T40 l0 x5_1).f1).size : Int))) x5_1 t247 ((Go.bits .or .i64 (wrap64 ((wrap64 (bt ((rd_T40 l0 x5_1).f1) 11)) * 256)) (wrap64 (bt ((rd_T40 l0 x5_1).f1) 12))) != (wrap64 ((((rd_T40 l0 x5_1).f1).size : Int) - 13)))) else (none)) else (none)) else (spec_FragmentsKnown.j2 kj5 l0 x3_1 (wrap64 (x4_1 + (((rd_T40 l0 x5_1).f1).size : Int))) x5_1 t247 true)) = some r := H
     have A19 := Aside0.mk A190
     clear A190
     have HC20 := Aside0.mk H
     clear H
     have p242 : 0 ≤ (x5_1 : Int) := of_decide_eq_true (by first | (with_reducible assumption) | assumption)
     have q242 : x5_1 < (l0.length : Int) := of_decide_eq_true (by first | (with_reducible assumption) | assumption)
     obtain ⟨ad242, e242, hx242_0, hx242_1⟩ := at_T40 HR0.out x5_1 p242 q242
     (try rw [← Nbq4.out] at hx242_0)
     obtain rfl : ad238 = ad242 := (by injection e242)
     replace hx242_0 := (HB.out.cell (World.block_lt_of_cell? w _ hx242_0)).trans hx242_0
     replace hx242_1 := (HB.out.cell (World.block_lt_of_cell? w _ hx242_1)).trans hx242_1
     replace p242 := eq_true p242
     replace q242 := eq_true q242
     have p243 : 0 ≤ (x5_1 : Int) := of_decide_eq_true (by first | (with_reducible assumption) | assumption)
     have q243 : x5_1 < (l0.length : Int) := of_decide_eq_true (by first | (with_reducible assumption) | assumption)
     obtain ⟨ad243, e243, hx243_0, hx243_1⟩ := at_T40 HR0.out x5_1 p243 q243
     (try rw [← Nbq4.out] at hx243_0)
     obtain rfl : ad238 = ad243 := (by injection e243)
     replace hx243_0 := (HB.out.cell (World.block_lt_of_cell? w _ hx243_0)).trans hx243_0
     replace hx243_1 := (HB.out.cell (World.block_lt_of_cell? w _ hx243_1)).trans hx243_1
     replace p243 := eq_true p243
     replace q243 := eq_true q243
     have p17 : 0 ≤ (0 : Int) := (by omega)
     have q17 : 0 < ((rd_T40 l0 x5_1).f1).size := (by have : (0 : Int) < (((rd_T40 l0 x5_1).f1).size : Int) := of_decide_eq_true (by first | (with_reducible assumption) | assumption); omega)
     have hx17 : ∀ h : 0 < ((rd_T40 l0 x5_1).f1).size, ((((rd_T40 l0 x5_1).f1)[0]'h).toNat : Int) = bt ((rd_T40 l0 x5_1).f1) 0 := bt_at ((rd_T40 l0 x5_1).f1) 0
     clear p17
     have qi17 : (0 < (((rd_T40 l0 x5_1).f1).size : Int)) = True := eq_true (of_decide_eq_true (by first | (with_reducible assumption) | assumption))
     replace q17 := eq_true q17
     have p246 : 0 ≤ (x5_1 : Int) := of_decide_eq_true (by first | (with_reducible assumption) | assumption)
     have q246 : x5_1 < (l0.length : Int) := of_decide_eq_true (by first | (with_reducible assumption) | assumption)
     obtain ⟨ad246, e246, hx246_0, hx246_1⟩ := at_T40 HR0.out x5_1 p246 q246
     (try rw [← Nbq4.out] at hx246_0)
     obtain rfl : ad238 = ad246 := (by injection e246)
     replace hx246_0 := (HB.out.cell (World.block_lt_of_cell? w _ hx246_0)).trans hx246_0
     replace hx246_1 := (HB.out.cell (World.block_lt_of_cell? w _ hx246_1)).trans hx246_1
     replace p246 := eq_true p246
     replace q246 := eq_true q246
     go_upto_region 14 with (first | ((with_reducible refine gate_callee (f := 26) rfl ?_); refine goesL_ (some 84) rfl rfl Tryd.func26 (by kernel_rfl) rfl #[.string ((rd_T40 l0 x5_1).f1)] rfl (by (try simp only [List.map_toArray, List.map_cons, List.map_nil]); first | done | rfl | (simp only [List.length_drop, List.length_take]; rfl)) ?_; (with_reducible refine (spec_pieces.calls kj5 ((rd_T40 l0 x5_1).f1) t247 t248 _ A19.out).mono ?_); rintro e w21 ⟨v249, rfl, ho0, hb⟩; refine ⟨_, rfl, ?_⟩; have n0_ := Aside0.mk (Kd.R_elder' (by (with_reducible repeat (first | apply Kd.R_alloc | apply Kd.R_drewN | apply Kd.R_drew)); exact HO_3.out) (Kd.R_base ho0) hb); have n1_ := Aside0.mk (Kd.R_lower (Kd.R_new' ho0 (Kd.R_lt (by (with_reducible repeat (first | apply Kd.R_alloc | apply Kd.R_drewN | apply Kd.R_drew)); exact HO_3.out))) (below_size (by repeat (first | (with_reducible first | exact HB.out | apply below_alloc | apply pw_below_drewN | apply below_drew1) | exact HB.out)))); have n2_ := Aside0.mk (below_step (by repeat (first | (with_reducible first | exact HB.out | apply below_alloc | apply pw_below_drewN | apply below_drew1) | exact HB.out)) hb); clear HO_3; clear HB; have HO_3 := n0_; have HO250 := n1_; have HB := n2_; clear n0_ n1_ n2_; (try clear hb); (try clear hb2); (try clear hk); (try clear hi); (try clear ho0)))
     (try simp only [Act.put, List.setIfInBounds_toArray, List.set_cons_zero, List.set_cons_succ])
     go_cut [114] (fun v114 wc => ∃ (kq : Nat) (x114_19 : Bool), v114 = .bool x114_19 ∧ Aside0 (spec_FragmentsKnown.j2 kq l0 x3_1 (wrap64 (x4_1 + (((rd_T40 l0 x5_1).f1).size : Int))) x5_1 t247 x114_19 = some r) ∧ Aside0 (kq ≤ kj5) ∧ Aside0 (Kd.R k68 68 wc w.heap.size (fun k_ => some k_ ≠ (v249 : Value).ownBlock) u3 x3_1) ∧ Aside0 (Kd.R k68 68 wc w.heap.size (fun k_ => some k_ ≠ (u3 : Value).ownBlock) v249 t247) ∧ Aside0 (Below w.heap.size w wc))
     case first => as_aux_lemma =>
      have H := HC20.out
      clear HC20
      by_cases c22 : t248 = true
      rotate_left
      ·replace c22 := Bool.eq_false_iff.mpr c22
       subst c22
       have H1 : (spec_FragmentsKnown.j2 kj5 l0 x3_1 (wrap64 (x4_1 + (((rd_T40 l0 x5_1).f1).size : Int))) x5_1 t247 true) = some r := by rw [if_neg (show ¬ (false = true) by decide)] at H; exact H
       clear H
       have H := H1
       clear H1
       have H' := Aside0.mk H
       clear H
       try go_wp2
       have n0_ := Aside0.mk (Kd.R_drew HO_3.out)
       have n1_ := Aside0.mk (Kd.R_drew HO250.out)
       have n2_ := Aside0.mk (below_drew1 HB.out)
       clear HO_3
       clear HO250
       clear HB
       have HO_3 := n0_
       have HO250 := n1_
       have HB := n2_
       clear n0_ n1_ n2_
       refine start_ (n := 28) (S := fun w' => True) (ds := []) #[false, false, false, false, false, false, false, false, false, false, false, false, false, false, false, false, false, false, false, false, false, false, false, false, false, false, false, false] (by kernel_rfl) rfl rfl trivial (fun hHeld => ?_); refine with_tabW spec_FragmentsKnown.tab14 spec_FragmentsKnown.bits14 (fun HT_ HW_ => ?_)
       generalize w21.drew = w28 at HO_3 HO250 HB hHeld ⊢
       refine pure_ (i := 0) (N := some 87) (v := ?_) (a' := ?_) #[true, false, false, false, false, false, false, false, false, false, false, false, false, false, false, false, false, false, false, false, false, false, false, false, false, false, false, false] rfl rfl (any_of HT_.out (by kernel_rfl)) (fun _ _ _ h => h) (Or.inl ⟨by rfl, ?_⟩) ?_ ?_
       rotate_left
       ·intro w'
        go_simp
        with_reducible rfl
       rotate_left
       ·simp only [Act.put, List.setIfInBounds_toArray, List.set_cons_zero, List.set_cons_succ, i64_w, i32_w]
        rfl
       refine pure_ (i := 1) (N := some 88) (v := ?_) (a' := ?_) #[true, true, false, false, false, false, false, false, false, false, false, false, false, false, false, false, false, false, false, false, false, false, false, false, false, false, false, false] rfl rfl (any_of HT_.out (by kernel_rfl)) (fun _ _ _ h => h) (Or.inl ⟨by rfl, ?_⟩) ?_ ?_
       rotate_left
       ·intro w'
        go_simp
        with_reducible rfl
       rotate_left
       ·simp only [Act.put, List.setIfInBounds_toArray, List.set_cons_zero, List.set_cons_succ, i64_w, i32_w]
        rfl
       refine pure_ (i := 2) (N := some 89) (v := ?_) (a' := ?_) #[true, true, true, false, false, false, false, false, false, false, false, false, false, false, false, false, false, false, false, false, false, false, false, false, false, false, false, false] rfl rfl (any_of HT_.out (by kernel_rfl)) (fun _ _ _ h => h) (Or.inl ⟨by rfl, ?_⟩) ?_ ?_
       rotate_left
       ·intro w'
        go_simp
        with_reducible rfl
       rotate_left
       ·simp only [Act.put, List.setIfInBounds_toArray, List.set_cons_zero, List.set_cons_succ, i64_w, i32_w]
        rfl
       refine pure_ (i := 3) (N := some 90) (v := undef) (a' := ?_) #[true, true, true, true, false, false, false, false, false, false, false, false, false, false, false, false, false, false, false, false, false, false, false, false, false, false, false, false] rfl rfl (any_of HT_.out (by kernel_rfl)) (fun _ _ _ h => h) (Or.inr ⟨by rfl, rfl⟩) ?_ ?_
       rotate_left
       ·simp only [Act.put, List.setIfInBounds_toArray, List.set_cons_zero, List.set_cons_succ, i64_w, i32_w]
        rfl
       refine pure_ (i := 4) (N := some 91) (v := undef) (a' := ?_) #[true, true, true, true, true, false, false, false, false, false, false, false, false, false, false, false, false, false, false, false, false, false, false, false, false, false, false, false] rfl rfl (any_of HT_.out (by kernel_rfl)) (fun _ _ _ h => h) (Or.inr ⟨by rfl, rfl⟩) ?_ ?_
       rotate_left
       ·simp only [Act.put, List.setIfInBounds_toArray, List.set_cons_zero, List.set_cons_succ, i64_w, i32_w]
        rfl
       refine pure_ (i := 5) (N := some 92) (v := undef) (a' := ?_) #[true, true, true, true, true, true, false, false, false, false, false, false, false, false, false, false, false, false, false, false, false, false, false, false, false, false, false, false] rfl rfl (any_of HT_.out (by kernel_rfl)) (fun _ _ _ h => h) (Or.inr ⟨by rfl, rfl⟩) ?_ ?_
       rotate_left
       ·simp only [Act.put, List.setIfInBounds_toArray, List.set_cons_zero, List.set_cons_succ, i64_w, i32_w]
        rfl
       refine pure_ (i := 6) (N := some 93) (v := undef) (a' := ?_) #[true, true, true, true, true, true, true, false, false, false, false, false, false, false, false, false, false, false, false, false, false, false, false, false, false, false, false, false] rfl rfl (any_of HT_.out (by kernel_rfl)) (fun _ _ _ h => h) (Or.inr ⟨by rfl, rfl⟩) ?_ ?_
       rotate_left
       ·simp only [Act.put, List.setIfInBounds_toArray, List.set_cons_zero, List.set_cons_succ, i64_w, i32_w]
        rfl
       refine pure_ (i := 7) (N := some 94) (v := undef) (a' := ?_) #[true, true, true, true, true, true, true, true, false, false, false, false, false, false, false, false, false, false, false, false, false, false, false, false, false, false, false, false] rfl rfl (any_of HT_.out (by kernel_rfl)) (fun _ _ _ h => h) (Or.inr ⟨by rfl, rfl⟩) ?_ ?_
       rotate_left
       ·simp only [Act.put, List.setIfInBounds_toArray, List.set_cons_zero, List.set_cons_succ, i64_w, i32_w]
        rfl
       refine pure_ (i := 8) (N := some 95) (v := undef) (a' := ?_) #[true, true, true, true, true, true, true, true, true, false, false, false, false, false, false, false, false, false, false, false, false, false, false, false, false, false, false, false] rfl rfl (any_of HT_.out (by kernel_rfl)) (fun _ _ _ h => h) (Or.inr ⟨by rfl, rfl⟩) ?_ ?_
       rotate_left
       ·simp only [Act.put, List.setIfInBounds_toArray, List.set_cons_zero, List.set_cons_succ, i64_w, i32_w]
        rfl
       refine pure_ (i := 9) (N := some 96) (v := undef) (a' := ?_) #[true, true, true, true, true, true, true, true, true, true, false, false, false, false, false, false, false, false, false, false, false, false, false, false, false, false, false, false] rfl rfl (any_of HT_.out (by kernel_rfl)) (fun _ _ _ h => h) (Or.inr ⟨by rfl, rfl⟩) ?_ ?_
       rotate_left
       ·simp only [Act.put, List.setIfInBounds_toArray, List.set_cons_zero, List.set_cons_succ, i64_w, i32_w]
        rfl
       refine pure_ (i := 10) (N := some 97) (v := undef) (a' := ?_) #[true, true, true, true, true, true, true, true, true, true, true, false, false, false, false, false, false, false, false, false, false, false, false, false, false, false, false, false] rfl rfl (any_of HT_.out (by kernel_rfl)) (fun _ _ _ h => h) (Or.inr ⟨by rfl, rfl⟩) ?_ ?_
       rotate_left
       ·simp only [Act.put, List.setIfInBounds_toArray, List.set_cons_zero, List.set_cons_succ, i64_w, i32_w]
        rfl
       refine pure_ (i := 11) (N := some 98) (v := undef) (a' := ?_) #[true, true, true, true, true, true, true, true, true, true, true, true, false, false, false, false, false, false, false, false, false, false, false, false, false, false, false, false] rfl rfl (any_of HT_.out (by kernel_rfl)) (fun _ _ _ h => h) (Or.inr ⟨by rfl, rfl⟩) ?_ ?_
       rotate_left
       ·simp only [Act.put, List.setIfInBounds_toArray, List.set_cons_zero, List.set_cons_succ, i64_w, i32_w]
        rfl
       refine pure_ (i := 12) (N := some 99) (v := undef) (a' := ?_) #[true, true, true, true, true, true, true, true, true, true, true, true, true, false, false, false, false, false, false, false, false, false, false, false, false, false, false, false] rfl rfl (any_of HT_.out (by kernel_rfl)) (fun _ _ _ h => h) (Or.inr ⟨by rfl, rfl⟩) ?_ ?_
       rotate_left
       ·simp only [Act.put, List.setIfInBounds_toArray, List.set_cons_zero, List.set_cons_succ, i64_w, i32_w]
        rfl
       refine pure_ (i := 13) (N := some 100) (v := undef) (a' := ?_) #[true, true, true, true, true, true, true, true, true, true, true, true, true, true, false, false, false, false, false, false, false, false, false, false, false, false, false, false] rfl rfl (any_of HT_.out (by kernel_rfl)) (fun _ _ _ h => h) (Or.inr ⟨by rfl, rfl⟩) ?_ ?_
       rotate_left
       ·simp only [Act.put, List.setIfInBounds_toArray, List.set_cons_zero, List.set_cons_succ, i64_w, i32_w]
        rfl
       refine pure_ (i := 14) (N := some 101) (v := undef) (a' := ?_) #[true, true, true, true, true, true, true, true, true, true, true, true, true, true, true, false, false, false, false, false, false, false, false, false, false, false, false, false] rfl rfl (any_of HT_.out (by kernel_rfl)) (fun _ _ _ h => h) (Or.inr ⟨by rfl, rfl⟩) ?_ ?_
       rotate_left
       ·simp only [Act.put, List.setIfInBounds_toArray, List.set_cons_zero, List.set_cons_succ, i64_w, i32_w]
        rfl
       refine pure_ (i := 15) (N := some 102) (v := undef) (a' := ?_) #[true, true, true, true, true, true, true, true, true, true, true, true, true, true, true, true, false, false, false, false, false, false, false, false, false, false, false, false] rfl rfl (any_of HT_.out (by kernel_rfl)) (fun _ _ _ h => h) (Or.inr ⟨by rfl, rfl⟩) ?_ ?_
       rotate_left
       ·simp only [Act.put, List.setIfInBounds_toArray, List.set_cons_zero, List.set_cons_succ, i64_w, i32_w]
        rfl
       refine pure_ (i := 16) (N := some 103) (v := undef) (a' := ?_) #[true, true, true, true, true, true, true, true, true, true, true, true, true, true, true, true, true, false, false, false, false, false, false, false, false, false, false, false] rfl rfl (any_of HT_.out (by kernel_rfl)) (fun _ _ _ h => h) (Or.inr ⟨by rfl, rfl⟩) ?_ ?_
       rotate_left
       ·simp only [Act.put, List.setIfInBounds_toArray, List.set_cons_zero, List.set_cons_succ, i64_w, i32_w]
        rfl
       refine pure_ (i := 17) (N := some 104) (v := undef) (a' := ?_) #[true, true, true, true, true, true, true, true, true, true, true, true, true, true, true, true, true, true, false, false, false, false, false, false, false, false, false, false] rfl rfl (any_of HT_.out (by kernel_rfl)) (fun _ _ _ h => h) (Or.inr ⟨by rfl, rfl⟩) ?_ ?_
       rotate_left
       ·simp only [Act.put, List.setIfInBounds_toArray, List.set_cons_zero, List.set_cons_succ, i64_w, i32_w]
        rfl
       refine pure_ (i := 18) (N := some 105) (v := undef) (a' := ?_) #[true, true, true, true, true, true, true, true, true, true, true, true, true, true, true, true, true, true, true, false, false, false, false, false, false, false, false, false] rfl rfl (any_of HT_.out (by kernel_rfl)) (fun _ _ _ h => h) (Or.inr ⟨by rfl, rfl⟩) ?_ ?_
       rotate_left
       ·simp only [Act.put, List.setIfInBounds_toArray, List.set_cons_zero, List.set_cons_succ, i64_w, i32_w]
        rfl
       refine pure_ (i := 19) (N := some 106) (v := undef) (a' := ?_) #[true, true, true, true, true, true, true, true, true, true, true, true, true, true, true, true, true, true, true, true, false, false, false, false, false, false, false, false] rfl rfl (any_of HT_.out (by kernel_rfl)) (fun _ _ _ h => h) (Or.inr ⟨by rfl, rfl⟩) ?_ ?_
       rotate_left
       ·simp only [Act.put, List.setIfInBounds_toArray, List.set_cons_zero, List.set_cons_succ, i64_w, i32_w]
        rfl
       refine pure_ (i := 20) (N := some 107) (v := undef) (a' := ?_) #[true, true, true, true, true, true, true, true, true, true, true, true, true, true, true, true, true, true, true, true, true, false, false, false, false, false, false, false] rfl rfl (any_of HT_.out (by kernel_rfl)) (fun _ _ _ h => h) (Or.inr ⟨by rfl, rfl⟩) ?_ ?_
       rotate_left
       ·simp only [Act.put, List.setIfInBounds_toArray, List.set_cons_zero, List.set_cons_succ, i64_w, i32_w]
        rfl
       refine pure_ (i := 21) (N := some 108) (v := undef) (a' := ?_) #[true, true, true, true, true, true, true, true, true, true, true, true, true, true, true, true, true, true, true, true, true, true, false, false, false, false, false, false] rfl rfl (any_of HT_.out (by kernel_rfl)) (fun _ _ _ h => h) (Or.inr ⟨by rfl, rfl⟩) ?_ ?_
       rotate_left
       ·simp only [Act.put, List.setIfInBounds_toArray, List.set_cons_zero, List.set_cons_succ, i64_w, i32_w]
        rfl
       refine pure_ (i := 22) (N := some 109) (v := undef) (a' := ?_) #[true, true, true, true, true, true, true, true, true, true, true, true, true, true, true, true, true, true, true, true, true, true, true, false, false, false, false, false] rfl rfl (any_of HT_.out (by kernel_rfl)) (fun _ _ _ h => h) (Or.inr ⟨by rfl, rfl⟩) ?_ ?_
       rotate_left
       ·simp only [Act.put, List.setIfInBounds_toArray, List.set_cons_zero, List.set_cons_succ, i64_w, i32_w]
        rfl
       refine pure_ (i := 23) (N := some 110) (v := undef) (a' := ?_) #[true, true, true, true, true, true, true, true, true, true, true, true, true, true, true, true, true, true, true, true, true, true, true, true, false, false, false, false] rfl rfl (any_of HT_.out (by kernel_rfl)) (fun _ _ _ h => h) (Or.inr ⟨by rfl, rfl⟩) ?_ ?_
       rotate_left
       ·simp only [Act.put, List.setIfInBounds_toArray, List.set_cons_zero, List.set_cons_succ, i64_w, i32_w]
        rfl
       refine pure_ (i := 24) (N := some 111) (v := undef) (a' := ?_) #[true, true, true, true, true, true, true, true, true, true, true, true, true, true, true, true, true, true, true, true, true, true, true, true, true, false, false, false] rfl rfl (any_of HT_.out (by kernel_rfl)) (fun _ _ _ h => h) (Or.inr ⟨by rfl, rfl⟩) ?_ ?_
       rotate_left
       ·simp only [Act.put, List.setIfInBounds_toArray, List.set_cons_zero, List.set_cons_succ, i64_w, i32_w]
        rfl
       refine pure_ (i := 25) (N := some 112) (v := undef) (a' := ?_) #[true, true, true, true, true, true, true, true, true, true, true, true, true, true, true, true, true, true, true, true, true, true, true, true, true, true, false, false] rfl rfl (any_of HT_.out (by kernel_rfl)) (fun _ _ _ h => h) (Or.inr ⟨by rfl, rfl⟩) ?_ ?_
       rotate_left
       ·simp only [Act.put, List.setIfInBounds_toArray, List.set_cons_zero, List.set_cons_succ, i64_w, i32_w]
        rfl
       refine pure_ (i := 26) (N := some 113) (v := undef) (a' := ?_) #[true, true, true, true, true, true, true, true, true, true, true, true, true, true, true, true, true, true, true, true, true, true, true, true, true, true, true, false] rfl rfl (any_of HT_.out (by kernel_rfl)) (fun _ _ _ h => h) (Or.inr ⟨by rfl, rfl⟩) ?_ ?_
       rotate_left
       ·simp only [Act.put, List.setIfInBounds_toArray, List.set_cons_zero, List.set_cons_succ, i64_w, i32_w]
        rfl
       refine pure_ (i := 27) (N := some 114) (v := ?_) (a' := ?_) #[true, true, true, true, true, true, true, true, true, true, true, true, true, true, true, true, true, true, true, true, true, true, true, true, true, true, true, true] rfl rfl (any_of HT_.out (by kernel_rfl)) (fun _ _ _ h => h) (Or.inl ⟨by rfl, ?_⟩) ?_ ?_
       rotate_left
       ·intro w'
        go_simp
        with_reducible rfl
       rotate_left
       ·simp only [Act.put, List.setIfInBounds_toArray, List.set_cons_zero, List.set_cons_succ, i64_w, i32_w]
        rfl
       refine done_ (done_of HT_.out (by kernel_rfl)) ?_
       try go_wp2
       go_meet
       case rel => exact ⟨_, (true), (by first | rfl | (simp; done) | (simp [*]; done)), H', ⟨by have := HK1.out; have := HJ5.out; first | omega | exact Nat.le_refl _⟩, ⟨by (with_reducible repeat (first | apply Kd.R_alloc | apply Kd.R_drewN | apply Kd.R_drew)); exact Kd.R_mono HO_3.out (fun _ hk => hk.2)⟩, ⟨by (with_reducible repeat (first | apply Kd.R_alloc | apply Kd.R_drewN | apply Kd.R_drew)); exact Kd.R_mono HO250.out (fun _ hk => hk.2)⟩, ⟨by repeat (first | (with_reducible first | exact HB.out | apply below_alloc | apply pw_below_drewN | apply below_drew1) | exact HB.out)⟩⟩
      subst c22
      have H1 : (if 11 < (((rd_T40 l0 x5_1).f1).size : Int) then (if 12 < (((rd_T40 l0 x5_1).f1).size : Int) then (spec_FragmentsKnown.j2 kj5 l0 x3_1 (wrap64 (x4_1 + (((rd_T40 l0 x5_1).f1).size : Int))) x5_1 t247 ((Go.bits .or .i64 (wrap64 ((wrap64 (bt ((rd_T40 l0 x5_1).f1) 11)) * 256)) (wrap64 (bt ((rd_T40 l0 x5_1).f1) 12))) != (wrap64 ((((rd_T40 l0 x5_1).f1).size : Int) - 13)))) else (none)) else (none)) = some r := by rw [if_pos rfl] at H; exact H
      clear H
      have H := H1
      clear H1
      by_cases c23 : 11 < (((rd_T40 l0 x5_1).f1).size : Int)
      rotate_left
      ·rw [if_neg c23] at H
       exact absurd H (by simp)
      rw [if_pos c23] at H
      have c23b0 : decide (11 < (((rd_T40 l0 x5_1).f1).size : Int)) = true := decide_eq_true c23
      have c23b1 : decide (11 < ((rd_T40 l0 x5_1).f1).size) = true := decide_eq_true (by omega)
      clear c23
      (first | rw [c23b0] | (simp only [i64_w, i32_w]; rw [c23b0]) | skip)
      by_cases c25 : 12 < (((rd_T40 l0 x5_1).f1).size : Int)
      rotate_left
      ·rw [if_neg c25] at H
       exact absurd H (by simp)
      rw [if_pos c25] at H
      have c25b0 : decide (12 < (((rd_T40 l0 x5_1).f1).size : Int)) = true := decide_eq_true c25
      have c25b1 : decide (12 < ((rd_T40 l0 x5_1).f1).size) = true := decide_eq_true (by omega)
      clear c25
      have H' := Aside0.mk H
      clear H
      try go_wp2
      have n0_ := Aside0.mk (Kd.R_drew HO_3.out)
      have n1_ := Aside0.mk (Kd.R_drew HO250.out)
      have n2_ := Aside0.mk (below_drew1 HB.out)
      clear HO_3
      clear HO250
      clear HB
      have HO_3 := n0_
      have HO250 := n1_
      have HB := n2_
      clear n0_ n1_ n2_
      have p251 : 0 ≤ (x5_1 : Int) := of_decide_eq_true (by first | (with_reducible assumption) | assumption)
      have q251 : x5_1 < (l0.length : Int) := of_decide_eq_true (by first | (with_reducible assumption) | assumption)
      obtain ⟨ad251, e251, hx251_0, hx251_1⟩ := at_T40 HR0.out x5_1 p251 q251
      have hw251_1 := hx251_1
      have hw251_0 := hx251_0
      (try rw [← Nbq4.out] at hx251_0)
      obtain rfl : ad238 = ad251 := (by injection e251)
      replace hx251_0 := (HB.out.cell (World.block_lt_of_cell? w _ hx251_0)).trans hx251_0
      replace hx251_1 := (HB.out.cell (World.block_lt_of_cell? w _ hx251_1)).trans hx251_1
      replace p251 := eq_true p251
      replace q251 := eq_true q251
      have p24 : 0 ≤ (11 : Int) := (by omega)
      have q24 : 11 < ((rd_T40 l0 x5_1).f1).size := (by have : (11 : Int) < (((rd_T40 l0 x5_1).f1).size : Int) := of_decide_eq_true (by first | (with_reducible assumption) | assumption); omega)
      have hx24 : ∀ h : 11 < ((rd_T40 l0 x5_1).f1).size, ((((rd_T40 l0 x5_1).f1)[11]'h).toNat : Int) = bt ((rd_T40 l0 x5_1).f1) 11 := bt_at ((rd_T40 l0 x5_1).f1) 11
      clear p24
      have qi24 : (11 < (((rd_T40 l0 x5_1).f1).size : Int)) = True := eq_true (of_decide_eq_true (by first | (with_reducible assumption) | assumption))
      replace q24 := eq_true q24
      have p252 : 0 ≤ (x5_1 : Int) := of_decide_eq_true (by first | (with_reducible assumption) | assumption)
      have q252 : x5_1 < (l0.length : Int) := of_decide_eq_true (by first | (with_reducible assumption) | assumption)
      obtain ⟨ad252, e252, hx252_0, hx252_1⟩ := at_T40 HR0.out x5_1 p252 q252
      have hw252_1 := hx252_1
      have hw252_0 := hx252_0
      (try rw [← Nbq4.out] at hx252_0)
      obtain rfl : ad238 = ad252 := (by injection e252)
      replace hx252_0 := (HB.out.cell (World.block_lt_of_cell? w _ hx252_0)).trans hx252_0
      replace hx252_1 := (HB.out.cell (World.block_lt_of_cell? w _ hx252_1)).trans hx252_1
      replace p252 := eq_true p252
      replace q252 := eq_true q252
      have p26 : 0 ≤ (12 : Int) := (by omega)
      have q26 : 12 < ((rd_T40 l0 x5_1).f1).size := (by have : (12 : Int) < (((rd_T40 l0 x5_1).f1).size : Int) := of_decide_eq_true (by first | (with_reducible assumption) | assumption); omega)
      have hx26 : ∀ h : 12 < ((rd_T40 l0 x5_1).f1).size, ((((rd_T40 l0 x5_1).f1)[12]'h).toNat : Int) = bt ((rd_T40 l0 x5_1).f1) 12 := bt_at ((rd_T40 l0 x5_1).f1) 12
      clear p26
      have qi26 : (12 < (((rd_T40 l0 x5_1).f1).size : Int)) = True := eq_true (of_decide_eq_true (by first | (with_reducible assumption) | assumption))
      replace q26 := eq_true q26
      have p253 : 0 ≤ (x5_1 : Int) := of_decide_eq_true (by first | (with_reducible assumption) | assumption)
      have q253 : x5_1 < (l0.length : Int) := of_decide_eq_true (by first | (with_reducible assumption) | assumption)
      obtain ⟨ad253, e253, hx253_0, hx253_1⟩ := at_T40 HR0.out x5_1 p253 q253
      have hw253_1 := hx253_1
      have hw253_0 := hx253_0
      (try rw [← Nbq4.out] at hx253_0)
      obtain rfl : ad238 = ad253 := (by injection e253)
      replace hx253_0 := (HB.out.cell (World.block_lt_of_cell? w _ hx253_0)).trans hx253_0
      replace hx253_1 := (HB.out.cell (World.block_lt_of_cell? w _ hx253_1)).trans hx253_1
      replace p253 := eq_true p253
      replace q253 := eq_true q253
      (try rw [← Nbq4.out] at hw251_0)
      (try rw [← Nbq4.out] at hw252_0)
      (try rw [← Nbq4.out] at hw253_0)
      refine start_ (n := 28) (S := fun w' => w'.cell? (ad238.add ((x5_1).toNat * 2)) = some (.bool (true)) ∧ w'.cell? ⟨(ad238.add ((x5_1).toNat * 2)).block, (ad238.add ((x5_1).toNat * 2)).off + 1, none⟩ = some (.string ((rd_T40 l0 x5_1).f1)) ∧ w'.cell? (ad238.add ((x5_1).toNat * 2)) = some (.bool (true)) ∧ w'.cell? ⟨(ad238.add ((x5_1).toNat * 2)).block, (ad238.add ((x5_1).toNat * 2)).off + 1, none⟩ = some (.string ((rd_T40 l0 x5_1).f1)) ∧ w'.cell? (ad238.add ((x5_1).toNat * 2)) = some (.bool (true)) ∧ w'.cell? ⟨(ad238.add ((x5_1).toNat * 2)).block, (ad238.add ((x5_1).toNat * 2)).off + 1, none⟩ = some (.string ((rd_T40 l0 x5_1).f1))) (ds := []) #[false, false, false, false, false, false, false, false, false, false, false, false, false, false, false, false, false, false, false, false, false, false, false, false, false, false, false, false] (by kernel_rfl) rfl rfl ⟨((HB.out.cell (World.block_lt_of_cell? w _ hw251_0)).trans hw251_0), ((HB.out.cell (World.block_lt_of_cell? w _ hw251_1)).trans hw251_1), ((HB.out.cell (World.block_lt_of_cell? w _ hw252_0)).trans hw252_0), ((HB.out.cell (World.block_lt_of_cell? w _ hw252_1)).trans hw252_1), ((HB.out.cell (World.block_lt_of_cell? w _ hw253_0)).trans hw253_0), ((HB.out.cell (World.block_lt_of_cell? w _ hw253_1)).trans hw253_1)⟩ (fun hHeld => ?_); refine with_tabW spec_FragmentsKnown.tab14 spec_FragmentsKnown.bits14 (fun HT_ HW_ => ?_)
      generalize w21.drew = w27 at HO_3 HO250 HB hx251_0 hx251_1 hx252_0 hx252_1 hx253_0 hx253_1 hHeld ⊢
      refine pure_ (i := 0) (N := some 87) (v := ?_) (a' := ?_) #[true, false, false, false, false, false, false, false, false, false, false, false, false, false, false, false, false, false, false, false, false, false, false, false, false, false, false, false] rfl rfl (any_of HT_.out (by kernel_rfl)) (fun _ _ _ h => h) (Or.inl ⟨by rfl, ?_⟩) ?_ ?_
      rotate_left
      ·intro w'
       go_simp
       with_reducible rfl
      rotate_left
      ·simp only [Act.put, List.setIfInBounds_toArray, List.set_cons_zero, List.set_cons_succ, i64_w, i32_w]
       rfl
      refine pure_ (i := 1) (N := some 88) (v := ?_) (a' := ?_) #[true, true, false, false, false, false, false, false, false, false, false, false, false, false, false, false, false, false, false, false, false, false, false, false, false, false, false, false] rfl rfl (any_of HT_.out (by kernel_rfl)) (fun _ _ _ h => h) (Or.inl ⟨by rfl, ?_⟩) ?_ ?_
      rotate_left
      ·intro w'
       go_simp
       with_reducible rfl
      rotate_left
      ·simp only [Act.put, List.setIfInBounds_toArray, List.set_cons_zero, List.set_cons_succ, i64_w, i32_w]
       rfl
      refine pure_ (i := 2) (N := some 89) (v := ?_) (a' := ?_) #[true, true, true, false, false, false, false, false, false, false, false, false, false, false, false, false, false, false, false, false, false, false, false, false, false, false, false, false] rfl rfl (any_of HT_.out (by kernel_rfl)) (fun _ _ _ h => h) (Or.inl ⟨by rfl, ?_⟩) ?_ ?_
      rotate_left
      ·intro w'
       go_simp
       with_reducible rfl
      rotate_left
      ·simp only [Act.put, List.setIfInBounds_toArray, List.set_cons_zero, List.set_cons_succ, i64_w, i32_w]
       rfl
      refine pure_ (i := 3) (N := some 90) (v := ?_) (a' := ?_) #[true, true, true, true, false, false, false, false, false, false, false, false, false, false, false, false, false, false, false, false, false, false, false, false, false, false, false, false] rfl rfl (any_of HT_.out (by kernel_rfl)) (fun _ _ _ h => h) (Or.inl ⟨by rfl, ?_⟩) ?_ ?_
      rotate_left
      ·intro w'
       go_simp
       with_reducible rfl
      rotate_left
      ·simp only [Act.put, List.setIfInBounds_toArray, List.set_cons_zero, List.set_cons_succ, i64_w, i32_w]
       rfl
      refine pure_ (i := 4) (N := some 91) (v := ?_) (a' := ?_) #[true, true, true, true, true, false, false, false, false, false, false, false, false, false, false, false, false, false, false, false, false, false, false, false, false, false, false, false] rfl rfl (any_of HT_.out (by kernel_rfl)) (fun _ _ _ h => h) (Or.inl ⟨by rfl, ?_⟩) ?_ ?_
      rotate_left
      ·intro w'
       go_simp
       with_reducible rfl
      rotate_left
      ·simp only [Act.put, List.setIfInBounds_toArray, List.set_cons_zero, List.set_cons_succ, i64_w, i32_w]
       rfl
      refine pure_ (i := 5) (N := some 92) (v := ?_) (a' := ?_) #[true, true, true, true, true, true, false, false, false, false, false, false, false, false, false, false, false, false, false, false, false, false, false, false, false, false, false, false] rfl rfl (any_of HT_.out (by kernel_rfl)) (fun _ _ _ h => h) (Or.inl ⟨by rfl, ?_⟩) ?_ ?_
      rotate_left
      ·intro w'
       go_simp
       with_reducible rfl
      rotate_left
      ·simp only [Act.put, List.setIfInBounds_toArray, List.set_cons_zero, List.set_cons_succ, i64_w, i32_w]
       rfl
      refine pure_ (i := 6) (N := some 93) (v := ?_) (a' := ?_) #[true, true, true, true, true, true, true, false, false, false, false, false, false, false, false, false, false, false, false, false, false, false, false, false, false, false, false, false] rfl rfl (any_of HT_.out (by kernel_rfl)) (fun _ _ _ h => h) (Or.inl ⟨by rfl, ?_⟩) ?_ ?_
      rotate_left
      ·intro w'
       go_simp
       with_reducible rfl
      rotate_left
      ·simp only [Act.put, List.setIfInBounds_toArray, List.set_cons_zero, List.set_cons_succ, i64_w, i32_w]
       rfl
      refine pure_ (i := 11) (N := some 98) (v := ?_) (a' := ?_) #[true, true, true, true, true, true, true, false, false, false, false, true, false, false, false, false, false, false, false, false, false, false, false, false, false, false, false, false] rfl rfl (any_of HT_.out (by kernel_rfl)) (fun _ _ _ h => h) (Or.inl ⟨by rfl, ?_⟩) ?_ ?_
      rotate_left
      ·intro w'
       go_simp
       with_reducible rfl
      rotate_left
      ·simp only [Act.put, List.setIfInBounds_toArray, List.set_cons_zero, List.set_cons_succ, i64_w, i32_w]
       rfl
      refine pure_ (i := 12) (N := some 99) (v := ?_) (a' := ?_) #[true, true, true, true, true, true, true, false, false, false, false, true, true, false, false, false, false, false, false, false, false, false, false, false, false, false, false, false] rfl rfl (any_of HT_.out (by kernel_rfl)) (fun _ _ _ h => h) (Or.inl ⟨by rfl, ?_⟩) ?_ ?_
      rotate_left
      ·intro w'
       go_simp
       with_reducible rfl
      rotate_left
      ·simp only [Act.put, List.setIfInBounds_toArray, List.set_cons_zero, List.set_cons_succ, i64_w, i32_w]
       rfl
      refine pure_ (i := 13) (N := some 100) (v := ?_) (a' := ?_) #[true, true, true, true, true, true, true, false, false, false, false, true, true, true, false, false, false, false, false, false, false, false, false, false, false, false, false, false] rfl rfl (any_of HT_.out (by kernel_rfl)) (fun _ _ _ h => h) (Or.inl ⟨by rfl, ?_⟩) ?_ ?_
      rotate_left
      ·intro w'
       go_simp
       with_reducible rfl
      rotate_left
      ·simp only [Act.put, List.setIfInBounds_toArray, List.set_cons_zero, List.set_cons_succ, i64_w, i32_w]
       rfl
      refine pure_ (i := 14) (N := some 101) (v := ?_) (a' := ?_) #[true, true, true, true, true, true, true, false, false, false, false, true, true, true, true, false, false, false, false, false, false, false, false, false, false, false, false, false] rfl rfl (any_of HT_.out (by kernel_rfl)) (fun _ _ _ h => h) (Or.inl ⟨by rfl, ?_⟩) ?_ ?_
      rotate_left
      ·intro w'
       go_simp
       with_reducible rfl
      rotate_left
      ·simp only [Act.put, List.setIfInBounds_toArray, List.set_cons_zero, List.set_cons_succ, i64_w, i32_w]
       rfl
      refine pure_ (i := 19) (N := some 106) (v := ?_) (a' := ?_) #[true, true, true, true, true, true, true, false, false, false, false, true, true, true, true, false, false, false, false, true, false, false, false, false, false, false, false, false] rfl rfl (any_of HT_.out (by kernel_rfl)) (fun _ _ _ h => h) (Or.inl ⟨by rfl, ?_⟩) ?_ ?_
      rotate_left
      ·intro w'
       go_simp
       with_reducible rfl
      rotate_left
      ·simp only [Act.put, List.setIfInBounds_toArray, List.set_cons_zero, List.set_cons_succ, i64_w, i32_w]
       rfl
      refine pure_ (i := 20) (N := some 107) (v := ?_) (a' := ?_) #[true, true, true, true, true, true, true, false, false, false, false, true, true, true, true, false, false, false, false, true, true, false, false, false, false, false, false, false] rfl rfl (any_of HT_.out (by kernel_rfl)) (fun _ _ _ h => h) (Or.inl ⟨by rfl, ?_⟩) ?_ ?_
      rotate_left
      ·intro w'
       go_simp
       with_reducible rfl
      rotate_left
      ·simp only [Act.put, List.setIfInBounds_toArray, List.set_cons_zero, List.set_cons_succ, i64_w, i32_w]
       rfl
      refine pure_ (i := 21) (N := some 108) (v := ?_) (a' := ?_) #[true, true, true, true, true, true, true, false, false, false, false, true, true, true, true, false, false, false, false, true, true, true, false, false, false, false, false, false] rfl rfl (any_of HT_.out (by kernel_rfl)) (fun _ _ _ h => h) (Or.inl ⟨by rfl, ?_⟩) ?_ ?_
      rotate_left
      ·intro w'
       go_simp
       with_reducible rfl
      rotate_left
      ·simp only [Act.put, List.setIfInBounds_toArray, List.set_cons_zero, List.set_cons_succ, i64_w, i32_w]
       rfl
      refine pure_ (i := 22) (N := some 109) (v := ?_) (a' := ?_) #[true, true, true, true, true, true, true, false, false, false, false, true, true, true, true, false, false, false, false, true, true, true, true, false, false, false, false, false] rfl rfl (any_of HT_.out (by kernel_rfl)) (fun _ _ _ h => h) (Or.inl ⟨by rfl, ?_⟩) ?_ ?_
      rotate_left
      ·intro w'
       go_simp
       with_reducible rfl
      rotate_left
      ·simp only [Act.put, List.setIfInBounds_toArray, List.set_cons_zero, List.set_cons_succ, i64_w, i32_w]
       rfl
      refine take_ (i := 7) (N := some 94) (v := ?_) (a' := ?_) #[true, true, true, true, true, true, true, true, false, false, false, true, true, true, true, false, false, false, false, true, true, true, true, false, false, false, false, false] rfl rfl (take_ofW HT_.out HW_.out (by kernel_rfl)) (fun _ _ _ h => h) (Or.inl ⟨by rfl, ?_⟩) hHeld ?_ ?_
      rotate_left
      ·rintro w' ⟨s0, s1, s2, s3, s4, s5⟩
       go_simp
       with_reducible rfl
      rotate_left
      ·simp only [Act.put, List.setIfInBounds_toArray, List.set_cons_zero, List.set_cons_succ, i64_w, i32_w]
       rfl
      refine take_ (i := 8) (N := some 95) (v := ?_) (a' := ?_) #[true, true, true, true, true, true, true, true, true, false, false, true, true, true, true, false, false, false, false, true, true, true, true, false, false, false, false, false] rfl rfl (take_ofW HT_.out HW_.out (by kernel_rfl)) (fun _ _ _ h => h) (Or.inl ⟨by rfl, ?_⟩) hHeld ?_ ?_
      rotate_left
      ·rintro w' ⟨s0, s1, s2, s3, s4, s5⟩
       go_simp
       with_reducible rfl
      rotate_left
      ·simp only [Act.put, List.setIfInBounds_toArray, List.set_cons_zero, List.set_cons_succ, i64_w, i32_w]
       rfl
      refine pure_ (i := 9) (N := some 96) (v := ?_) (a' := ?_) #[true, true, true, true, true, true, true, true, true, true, false, true, true, true, true, false, false, false, false, true, true, true, true, false, false, false, false, false] rfl rfl (any_of HT_.out (by kernel_rfl)) (fun _ _ _ h => h) (Or.inl ⟨by rfl, ?_⟩) ?_ ?_
      rotate_left
      ·intro w'
       go_simp
       with_reducible rfl
      rotate_left
      ·simp only [Act.put, List.setIfInBounds_toArray, List.set_cons_zero, List.set_cons_succ, i64_w, i32_w]
       rfl
      refine pure_ (i := 10) (N := some 97) (v := ?_) (a' := ?_) #[true, true, true, true, true, true, true, true, true, true, true, true, true, true, true, false, false, false, false, true, true, true, true, false, false, false, false, false] rfl rfl (any_of HT_.out (by kernel_rfl)) (fun _ _ _ h => h) (Or.inl ⟨by rfl, ?_⟩) ?_ ?_
      rotate_left
      ·intro w'
       go_simp
       with_reducible rfl
      rotate_left
      ·simp only [Act.put, List.setIfInBounds_toArray, List.set_cons_zero, List.set_cons_succ, i64_w, i32_w]
       rfl
      refine take_ (i := 15) (N := some 102) (v := ?_) (a' := ?_) #[true, true, true, true, true, true, true, true, true, true, true, true, true, true, true, true, false, false, false, true, true, true, true, false, false, false, false, false] rfl rfl (take_ofW HT_.out HW_.out (by kernel_rfl)) (fun _ _ _ h => h) (Or.inl ⟨by rfl, ?_⟩) hHeld ?_ ?_
      rotate_left
      ·rintro w' ⟨s0, s1, s2, s3, s4, s5⟩
       go_simp
       with_reducible rfl
      rotate_left
      ·simp only [Act.put, List.setIfInBounds_toArray, List.set_cons_zero, List.set_cons_succ, i64_w, i32_w]
       rfl
      refine take_ (i := 16) (N := some 103) (v := ?_) (a' := ?_) #[true, true, true, true, true, true, true, true, true, true, true, true, true, true, true, true, true, false, false, true, true, true, true, false, false, false, false, false] rfl rfl (take_ofW HT_.out HW_.out (by kernel_rfl)) (fun _ _ _ h => h) (Or.inl ⟨by rfl, ?_⟩) hHeld ?_ ?_
      rotate_left
      ·rintro w' ⟨s0, s1, s2, s3, s4, s5⟩
       go_simp
       with_reducible rfl
      rotate_left
      ·simp only [Act.put, List.setIfInBounds_toArray, List.set_cons_zero, List.set_cons_succ, i64_w, i32_w]
       rfl
      refine pure_ (i := 17) (N := some 104) (v := ?_) (a' := ?_) #[true, true, true, true, true, true, true, true, true, true, true, true, true, true, true, true, true, true, false, true, true, true, true, false, false, false, false, false] rfl rfl (any_of HT_.out (by kernel_rfl)) (fun _ _ _ h => h) (Or.inl ⟨by rfl, ?_⟩) ?_ ?_
      rotate_left
      ·intro w'
       go_simp
       with_reducible rfl
      rotate_left
      ·simp only [Act.put, List.setIfInBounds_toArray, List.set_cons_zero, List.set_cons_succ, i64_w, i32_w]
       rfl
      refine pure_ (i := 18) (N := some 105) (v := ?_) (a' := ?_) #[true, true, true, true, true, true, true, true, true, true, true, true, true, true, true, true, true, true, true, true, true, true, true, false, false, false, false, false] rfl rfl (any_of HT_.out (by kernel_rfl)) (fun _ _ _ h => h) (Or.inl ⟨by rfl, ?_⟩) ?_ ?_
      rotate_left
      ·intro w'
       go_simp
       with_reducible rfl
      rotate_left
      ·simp only [Act.put, List.setIfInBounds_toArray, List.set_cons_zero, List.set_cons_succ, i64_w, i32_w]
       rfl
      refine take_ (i := 23) (N := some 110) (v := ?_) (a' := ?_) #[true, true, true, true, true, true, true, true, true, true, true, true, true, true, true, true, true, true, true, true, true, true, true, true, false, false, false, false] rfl rfl (take_ofW HT_.out HW_.out (by kernel_rfl)) (fun _ _ _ h => h) (Or.inl ⟨by rfl, ?_⟩) hHeld ?_ ?_
      rotate_left
      ·rintro w' ⟨s0, s1, s2, s3, s4, s5⟩
       go_simp
       with_reducible rfl
      rotate_left
      ·simp only [Act.put, List.setIfInBounds_toArray, List.set_cons_zero, List.set_cons_succ, i64_w, i32_w]
       rfl
      refine pure_ (i := 24) (N := some 111) (v := ?_) (a' := ?_) #[true, true, true, true, true, true, true, true, true, true, true, true, true, true, true, true, true, true, true, true, true, true, true, true, true, false, false, false] rfl rfl (any_of HT_.out (by kernel_rfl)) (fun _ _ _ h => h) (Or.inl ⟨by rfl, ?_⟩) ?_ ?_
      rotate_left
      ·intro w'
       go_simp
       with_reducible rfl
      rotate_left
      ·simp only [Act.put, List.setIfInBounds_toArray, List.set_cons_zero, List.set_cons_succ, i64_w, i32_w]
       rfl
      refine pure_ (i := 25) (N := some 112) (v := ?_) (a' := ?_) #[true, true, true, true, true, true, true, true, true, true, true, true, true, true, true, true, true, true, true, true, true, true, true, true, true, true, false, false] rfl rfl (any_of HT_.out (by kernel_rfl)) (fun _ _ _ h => h) (Or.inl ⟨by rfl, ?_⟩) ?_ ?_
      rotate_left
      ·intro w'
       go_simp
       with_reducible rfl
      rotate_left
      ·simp only [Act.put, List.setIfInBounds_toArray, List.set_cons_zero, List.set_cons_succ, i64_w, i32_w]
       rfl
      refine pure_ (i := 26) (N := some 113) (v := ?_) (a' := ?_) #[true, true, true, true, true, true, true, true, true, true, true, true, true, true, true, true, true, true, true, true, true, true, true, true, true, true, true, false] rfl rfl (any_of HT_.out (by kernel_rfl)) (fun _ _ _ h => h) (Or.inl ⟨by rfl, ?_⟩) ?_ ?_
      rotate_left
      ·intro w'
       go_simp
       with_reducible rfl
      rotate_left
      ·simp only [Act.put, List.setIfInBounds_toArray, List.set_cons_zero, List.set_cons_succ, i64_w, i32_w]
       rfl
      refine pure_ (i := 27) (N := some 114) (v := ?_) (a' := ?_) #[true, true, true, true, true, true, true, true, true, true, true, true, true, true, true, true, true, true, true, true, true, true, true, true, true, true, true, true] rfl rfl (any_of HT_.out (by kernel_rfl)) (fun _ _ _ h => h) (Or.inl ⟨by rfl, ?_⟩) ?_ ?_
      rotate_left
      ·intro w'
       go_simp
       with_reducible rfl
      rotate_left
      ·simp only [Act.put, List.setIfInBounds_toArray, List.set_cons_zero, List.set_cons_succ, i64_w, i32_w]
       rfl
      refine done_ (done_of HT_.out (by kernel_rfl)) ?_
      try go_wp2
      go_meet
      case rel => exact ⟨_, (((Go.bits .or .i64 (wrap64 ((wrap64 (bt ((rd_T40 l0 x5_1).f1) 11)) * 256)) (wrap64 (bt ((rd_T40 l0 x5_1).f1) 12))) != (wrap64 ((((rd_T40 l0 x5_1).f1).size : Int) - 13)))), (by first | rfl | (simp; done) | (simp [*]; done)), H', ⟨by have := HK1.out; have := HJ5.out; first | omega | exact Nat.le_refl _⟩, ⟨by (with_reducible repeat (first | apply Kd.R_alloc | apply Kd.R_drewN | apply Kd.R_drew)); exact Kd.R_mono HO_3.out (fun _ hk => hk.2)⟩, ⟨by (with_reducible repeat (first | apply Kd.R_alloc | apply Kd.R_drewN | apply Kd.R_drew)); exact Kd.R_mono HO250.out (fun _ hk => hk.2)⟩, ⟨by repeat (first | (with_reducible first | exact HB.out | apply below_alloc | apply pw_below_drewN | apply below_drew1) | exact HB.out)⟩⟩
     case rest =>
      clear HC20
      try clear c1
      try clear p1
      try clear q1
      try clear hx1
      try clear qi1
      try clear c2
      try clear c2b0
      try clear p2
      try clear q2
      try clear hx2
      try clear qi2
      try clear c3
      try clear c3b0
      try clear q4
      try clear c5
      try clear p6
      try clear c7
      try clear c7b0
      try clear c7b1
      try clear c8
      try clear c8b0
      try clear c8b1
      try clear p9
      try clear q9
      try clear hx9
      try clear qi9
      try clear c10
      try clear c10b0
      try clear c10b1
      try clear c11
      try clear c11b0
      try clear c11b1
      try clear p12
      try clear q12
      try clear hx12
      try clear qi12
      try clear c13
      try clear c14
      try clear c14b0
      try clear c15
      try clear c15b0
      try clear c16
      try clear c16b0
      try clear c16b1
      try clear p17
      try clear q17
      try clear hx17
      try clear qi17
      try clear c18
      try clear c18b0
      try clear c18b1
      try clear c22
      try clear c23
      try clear c23b0
      try clear c23b1
      try clear p23
      try clear q23
      try clear hx23
      try clear p24
      try clear q24
      try clear hx24
      try clear qi24
      try clear c25
      try clear c25b0
      try clear c25b1
      try clear p25
      try clear q25
      try clear hx25
      try clear c26
      try clear p26
      try clear q26
      try clear hx26
      try clear qi26
      try clear hx238_0
      try clear hx238_1
      try clear hx239_0
      try clear hx239_1
      try clear hx240_0
      try clear hx240_1
      try clear hx241_0
      try clear hx241_1
      try clear hx242_0
      try clear hx242_1
      try clear hx243_0
      try clear hx243_1
      try clear hx246_0
      try clear hx246_1
      try clear hx251_0
      try clear hx251_1
      try clear hx252_0
      try clear hx252_1
      try clear hx253_0
      try clear hx253_1
      try clear p12
      try clear p17
      try clear p2
      try clear p238
      try clear p239
      try clear p24
      try clear p240
      try clear p241
      try clear p242
      try clear p243
      try clear p246
      try clear p251
      try clear p252
      try clear p253
      try clear p26
      try clear p6
      try clear p9
      try clear q12
      try clear q17
      try clear q2
      try clear q238
      try clear q239
      try clear q24
      try clear q240
      try clear q241
      try clear q242
      try clear q243
      try clear q246
      try clear q251
      try clear q252
      try clear q253
      try clear q26
      try clear q4
      try clear q9
      obtain ⟨kq, x114_19, rfl, HA, HJ19, HO_3, HO_6, HB⟩ := hcut
      cases kq with
      | zero => exact absurd HA.out (by simp [spec_FragmentsKnown.j2])
      | succ kj19 =>
       have H := HA.out
       clear HA
       simp only [spec_FragmentsKnown.j2] at H
       by_cases c29 : x114_19 = true
       ·subst c29
        have H1 : (none) = some r := by rw [if_pos rfl] at H; exact H
        clear H
        have H := H1
        clear H1
        exact absurd H (by simp)
       replace c29 := Bool.eq_false_iff.mpr c29
       subst c29
       have H1 : (spec_FragmentsKnown.l1 kj19 l0 x3_1 (wrap64 (x4_1 + (((rd_T40 l0 x5_1).f1).size : Int))) x5_1 t247 0) = some r := by rw [if_neg (show ¬ (false = true) by decide)] at H; exact H
       clear H
       have H := H1
       clear H1
       have H' := Aside0.mk H
       clear H
       go_wp2
       go_loopg [3, 8] kj19 (fun kq v3 v8 w' => ∃ (x3_4 : List (S68)) (x8_4 : Int), v8 = .int .i64 x8_4 ∧ Aside0 (spec_FragmentsKnown.l1 kq l0 x3_4 (wrap64 (x4_1 + (((rd_T40 l0 x5_1).f1).size : Int))) x5_1 t247 x8_4 = some r) ∧ Aside0 (kq ≤ kj19) ∧ Aside0 (Kd.R k68 68 w' w.heap.size (fun k_ => some k_ ≠ (v249 : Value).ownBlock) v3 x3_4) ∧ Aside0 (Kd.R k68 68 w' w.heap.size (fun k_ => some k_ ≠ (v3 : Value).ownBlock) v249 t247) ∧ Aside0 (Below w.heap.size w w'))
       case atStart => exact ⟨(x3_1), (0), (by first | rfl | (simp; done) | (simp [*]; done)), H', ⟨Nat.le_refl _⟩, ⟨by (with_reducible repeat (first | apply Kd.R_alloc | apply Kd.R_drewN | apply Kd.R_drew)); exact HO_3.out⟩, ⟨by (with_reducible repeat (first | apply Kd.R_alloc | apply Kd.R_drewN | apply Kd.R_drew)); exact HO_6.out⟩, ⟨by repeat (first | (with_reducible first | exact HB.out | apply below_alloc | apply pw_below_drewN | apply below_drew1) | exact HB.out)⟩⟩
       case round =>
        clear H'
        try clear c1
        try clear p1
        try clear q1
        try clear hx1
        try clear qi1
        try clear c2
        try clear c2b0
        try clear p2
        try clear q2
        try clear hx2
        try clear qi2
        try clear c3
        try clear c3b0
        try clear q4
        try clear c5
        try clear p6
        try clear c7
        try clear c7b0
        try clear c7b1
        try clear c8
        try clear c8b0
        try clear c8b1
        try clear p9
        try clear q9
        try clear hx9
        try clear qi9
        try clear c10
        try clear c10b0
        try clear c10b1
        try clear c11
        try clear c11b0
        try clear c11b1
        try clear p12
        try clear q12
        try clear hx12
        try clear qi12
        try clear c13
        try clear c14
        try clear c14b0
        try clear c15
        try clear c15b0
        try clear c16
        try clear c16b0
        try clear c16b1
        try clear p17
        try clear q17
        try clear hx17
        try clear qi17
        try clear c18
        try clear c18b0
        try clear c18b1
        try clear c22
        try clear c23
        try clear c23b0
        try clear c23b1
        try clear p23
        try clear q23
        try clear hx23
        try clear p24
        try clear q24
        try clear hx24
        try clear qi24
        try clear c25
        try clear c25b0
        try clear c25b1
        try clear p25
        try clear q25
        try clear hx25
        try clear c26
        try clear p26
        try clear q26
        try clear hx26
        try clear qi26
        try clear c29
        try clear hx238_0
        try clear hx238_1
        try clear hx239_0
        try clear hx239_1
        try clear hx240_0
        try clear hx240_1
        try clear hx241_0
        try clear hx241_1
        try clear hx242_0
        try clear hx242_1
        try clear hx243_0
        try clear hx243_1
        try clear hx246_0
        try clear hx246_1
        try clear hx251_0
        try clear hx251_1
        try clear hx252_0
        try clear hx252_1
        try clear hx253_0
        try clear hx253_1
        try clear p1
        try clear p12
        try clear p17
        try clear p2
        try clear p23
        try clear p238
        try clear p239
        try clear p24
        try clear p240
        try clear p241
        try clear p242
        try clear p243
        try clear p246
        try clear p25
        try clear p251
        try clear p252
        try clear p253
        try clear p26
        try clear p6
        try clear p9
        try clear q1
        try clear q12
        try clear q17
        try clear q2
        try clear q23
        try clear q238
        try clear q239
        try clear q24
        try clear q240
        try clear q241
        try clear q242
        try clear q243
        try clear q246
        try clear q25
        try clear q251
        try clear q252
        try clear q253
        try clear q26
        try clear q4
        try clear q9
        obtain ⟨x3_4, x8_4, rfl, HA, HK4, HO_3, HO_6, HB⟩ := hrel
        cases gk with
        | zero => exact absurd HA.out (by simp [spec_FragmentsKnown.l1])
        | succ k4 =>
         have H := HA.out
         clear HA
         simp only [spec_FragmentsKnown.l1] at H
         by_cases c30 : x8_4 < (t247.length : Int)
         rotate_left
         ·rw [if_neg c30] at H
          have c30b0 : decide (x8_4 < (t247.length : Int)) = false := decide_eq_false c30
          clear c30
          have H' := Aside0.mk H
          clear H
          obtain ⟨Ao53, co53, eo53⟩ := Kd.R_slice HO_6.out
          subst eo53
          go_wp2
          go_roundg k4
          case measure => have := HK1.out; have := HJ5.out; have := HJ19.out; have := HK4.out; omega
          case rel => exact ⟨(x3_4), ((wrap64 (x4_1 + (((rd_T40 l0 x5_1).f1).size : Int)))), (wrap64 (x5_1 + 1)), (by first | rfl | (simp; done) | (simp [*]; done)), (by first | rfl | (simp; done) | (simp [*]; done)), H', ⟨by have := HK1.out; have := HJ5.out; have := HJ19.out; have := HK4.out; omega⟩, ⟨by (with_reducible repeat (first | apply Kd.R_alloc | apply Kd.R_drewN | apply Kd.R_drew)); exact Kd.R_mono HO_3.out (fun _ hk => trivial)⟩, ⟨by repeat (first | (with_reducible first | exact HB.out | apply below_alloc | apply pw_below_drewN | apply below_drew1) | exact HB.out)⟩⟩
         rw [if_pos c30] at H
         have c30b0 : decide (x8_4 < (t247.length : Int)) = true := decide_eq_true c30
         clear c30
         have HC31 := Aside0.mk H
         clear H
         obtain ⟨Ao32, co32, eo32⟩ := Kd.R_slice HO_6.out
         subst eo32
         go_upto_region 19 with (fail)
         go_cut [134] (fun v134 wc => ∃ (kq : Nat) (x134_30 : Bool), v134 = .bool x134_30 ∧ Aside0 (spec_FragmentsKnown.j4 kq l0 x3_4 (wrap64 (x4_1 + (((rd_T40 l0 x5_1).f1).size : Int))) x5_1 t247 x8_4 x134_30 = some r) ∧ Aside0 (kq ≤ k4) ∧ Aside0 (Kd.R k68 68 wc w.heap.size (fun k_ => some k_ ≠ ((.slice Ao32 t247.length co32) : Value).ownBlock) u3 x3_4) ∧ Aside0 (Kd.R k68 68 wc w.heap.size (fun k_ => some k_ ≠ (u3 : Value).ownBlock) (.slice Ao32 t247.length co32) t247) ∧ Aside0 (Below w.heap.size w wc))
         case first => as_aux_lemma =>
          have H := HC31.out
          clear HC31
          by_cases c33 : 0 ≤ x8_4
          rotate_left
          ·rw [if_neg c33] at H
           exact absurd H (by simp)
          rw [if_pos c33] at H
          have c33b0 : decide (0 ≤ x8_4) = true := decide_eq_true c33
          clear c33
          (first | rw [c33b0] | (simp only [i64_w, i32_w]; rw [c33b0]) | skip)
          by_cases c34 : ((rd_T68 t247 x8_4).f4).toList = ([] : List UInt8)
          rotate_left
          ·rw [if_neg c34] at H
           have c34b0 : (((rd_T68 t247 x8_4).f4).toList == ([] : List UInt8)) = false := beq_eq_false_iff_ne.mpr c34
           have c34b1 : (((rd_T68 t247 x8_4).f4).toList != ([] : List UInt8)) = true := bne_iff_ne.mpr c34
           have H' := Aside0.mk H
           clear H
           have p254 : 0 ≤ (x8_4 : Int) := of_decide_eq_true (by first | (with_reducible assumption) | assumption)
           have q254 : x8_4 < (t247.length : Int) := of_decide_eq_true (by first | (with_reducible assumption) | assumption)
           obtain ⟨ad254, e254, hx254_0, hx254_1, hx254_2, hx254_3, hx254_4, hx254_5⟩ := at_T68 (Kd.R_reads' HO_6.out).2.2 x8_4 p254 q254
           cases e254
           replace p254 := eq_true p254
           replace q254 := eq_true q254
           go_wp2
           go_meet
           case rel => exact ⟨_, (false), (by first | rfl | (simp; done) | (simp [*]; done)), H', ⟨by have := HK1.out; have := HJ5.out; have := HJ19.out; have := HK4.out; first | omega | exact Nat.le_refl _⟩, ⟨by (with_reducible repeat (first | apply Kd.R_alloc | apply Kd.R_drewN | apply Kd.R_drew)); exact HO_3.out⟩, ⟨by (with_reducible repeat (first | apply Kd.R_alloc | apply Kd.R_drewN | apply Kd.R_drew)); exact HO_6.out⟩, ⟨by repeat (first | (with_reducible first | exact HB.out | apply below_alloc | apply pw_below_drewN | apply below_drew1) | exact HB.out)⟩⟩
          rw [if_pos c34] at H
          have c34b0 : (((rd_T68 t247 x8_4).f4).toList == ([] : List UInt8)) = true := beq_iff_eq.mpr c34
          have c34b1 : (((rd_T68 t247 x8_4).f4).toList != ([] : List UInt8)) = false := bne_eq_false_iff_eq.mpr c34
          clear c34
          have H' := Aside0.mk H
          clear H
          have p254 : 0 ≤ (x8_4 : Int) := of_decide_eq_true (by first | (with_reducible assumption) | assumption)
          have q254 : x8_4 < (t247.length : Int) := of_decide_eq_true (by first | (with_reducible assumption) | assumption)
          obtain ⟨ad254, e254, hx254_0, hx254_1, hx254_2, hx254_3, hx254_4, hx254_5⟩ := at_T68 (Kd.R_reads' HO_6.out).2.2 x8_4 p254 q254
          cases e254
          replace p254 := eq_true p254
          replace q254 := eq_true q254
          have p255 : 0 ≤ (x8_4 : Int) := of_decide_eq_true (by first | (with_reducible assumption) | assumption)
          have q255 : x8_4 < (t247.length : Int) := of_decide_eq_true (by first | (with_reducible assumption) | assumption)
          obtain ⟨ad255, e255, hx255_0, hx255_1, hx255_2, hx255_3, hx255_4, hx255_5⟩ := at_T68 (Kd.R_reads' HO_6.out).2.2 x8_4 p255 q255
          obtain rfl : ad254 = ad255 := (by injection e255)
          replace p255 := eq_true p255
          replace q255 := eq_true q255
          go_wp2
          go_meet
          case rel => exact ⟨_, (decide (((rd_T68 t247 x8_4).f1) > 0)), (by first | rfl | (simp; done) | (simp [*]; done)), H', ⟨by have := HK1.out; have := HJ5.out; have := HJ19.out; have := HK4.out; first | omega | exact Nat.le_refl _⟩, ⟨by (with_reducible repeat (first | apply Kd.R_alloc | apply Kd.R_drewN | apply Kd.R_drew)); exact HO_3.out⟩, ⟨by (with_reducible repeat (first | apply Kd.R_alloc | apply Kd.R_drewN | apply Kd.R_drew)); exact HO_6.out⟩, ⟨by repeat (first | (with_reducible first | exact HB.out | apply below_alloc | apply pw_below_drewN | apply below_drew1) | exact HB.out)⟩⟩
         case rest =>
          clear HC31
          try clear c1
          try clear p1
          try clear q1
          try clear hx1
          try clear qi1
          try clear c2
          try clear c2b0
          try clear p2
          try clear q2
          try clear hx2
          try clear qi2
          try clear c3
          try clear c3b0
          try clear q4
          try clear c5
          try clear p6
          try clear c7
          try clear c7b0
          try clear c7b1
          try clear c8
          try clear c8b0
          try clear c8b1
          try clear p9
          try clear q9
          try clear hx9
          try clear qi9
          try clear c10
          try clear c10b0
          try clear c10b1
          try clear c11
          try clear c11b0
          try clear c11b1
          try clear p12
          try clear q12
          try clear hx12
          try clear qi12
          try clear c13
          try clear c14
          try clear c14b0
          try clear c15
          try clear c15b0
          try clear c16
          try clear c16b0
          try clear c16b1
          try clear p17
          try clear q17
          try clear hx17
          try clear qi17
          try clear c18
          try clear c18b0
          try clear c18b1
          try clear c22
          try clear c23
          try clear c23b0
          try clear c23b1
          try clear p23
          try clear q23
          try clear hx23
          try clear p24
          try clear q24
          try clear hx24
          try clear qi24
          try clear c25
          try clear c25b0
          try clear c25b1
          try clear p25
          try clear q25
          try clear hx25
          try clear c26
          try clear p26
          try clear q26
          try clear hx26
          try clear qi26
          try clear c29
          try clear c30
          try clear c30b0
          try clear c33
          try clear c33b0
          try clear c34
          try clear c34b0
          try clear c34b1
          try clear hx238_0
          try clear hx238_1
          try clear hx239_0
          try clear hx239_1
          try clear hx240_0
          try clear hx240_1
          try clear hx241_0
          try clear hx241_1
          try clear hx242_0
          try clear hx242_1
          try clear hx243_0
          try clear hx243_1
          try clear hx246_0
          try clear hx246_1
          try clear hx251_0
          try clear hx251_1
          try clear hx252_0
          try clear hx252_1
          try clear hx253_0
          try clear hx253_1
          try clear hx254_0
          try clear hx254_1
          try clear hx254_2
          try clear hx254_3
          try clear hx254_4
          try clear hx254_5
          try clear hx255_0
          try clear hx255_1
          try clear hx255_2
          try clear hx255_3
          try clear hx255_4
          try clear hx255_5
          try clear p1
          try clear p12
          try clear p17
          try clear p2
          try clear p23
          try clear p238
          try clear p239
          try clear p24
          try clear p240
          try clear p241
          try clear p242
          try clear p243
          try clear p246
          try clear p25
          try clear p251
          try clear p252
          try clear p253
          try clear p254
          try clear p255
          try clear p26
          try clear p6
          try clear p9
          try clear q1
          try clear q12
          try clear q17
          try clear q2
          try clear q23
          try clear q238
          try clear q239
          try clear q24
          try clear q240
          try clear q241
          try clear q242
          try clear q243
          try clear q246
          try clear q25
          try clear q251
          try clear q252
          try clear q253
          try clear q254
          try clear q255
          try clear q26
          try clear q4
          try clear q9
          obtain ⟨kq, x134_30, rfl, HA, HJ30, HO_3, HO_6, HB⟩ := hcut
          cases kq with
          | zero => exact absurd HA.out (by simp [spec_FragmentsKnown.j4])
          | succ kj30 =>
           have H := HA.out
           clear HA
           simp only [spec_FragmentsKnown.j4] at H
           by_cases c35 : x134_30 = true
           ·subst c35
            have H1 : (none) = some r := by rw [if_pos rfl] at H; exact H
            clear H
            have H := H1
            clear H1
            exact absurd H (by simp)
           replace c35 := Bool.eq_false_iff.mpr c35
           subst c35
           have H1 : (spec_FragmentsKnown.l2 kj30 l0 x3_4 (wrap64 (x4_1 + (((rd_T40 l0 x5_1).f1).size : Int))) x5_1 t247 x8_4 0) = some r := by rw [if_neg (show ¬ (false = true) by decide)] at H; exact H
           clear H
           have H := H1
           clear H1
           have H' := Aside0.mk H
           clear H
           go_wp2
           go_loopg [9] kj30 (fun kq v9 w' => ∃ (x9_6 : Int), v9 = .int .i64 x9_6 ∧ Aside0 (spec_FragmentsKnown.l2 kq l0 x3_4 (wrap64 (x4_1 + (((rd_T40 l0 x5_1).f1).size : Int))) x5_1 t247 x8_4 x9_6 = some r) ∧ Aside0 (kq ≤ kj30) ∧ Aside0 (Kd.R k68 68 w' w.heap.size (fun k_ => some k_ ≠ ((.slice Ao32 t247.length co32) : Value).ownBlock) u3 x3_4) ∧ Aside0 (Kd.R k68 68 w' w.heap.size (fun k_ => some k_ ≠ (u3 : Value).ownBlock) (.slice Ao32 t247.length co32) t247) ∧ Aside0 (Below w.heap.size w w'))
           case atStart => exact ⟨(0), (by first | rfl | (simp; done) | (simp [*]; done)), H', ⟨Nat.le_refl _⟩, ⟨by (with_reducible repeat (first | apply Kd.R_alloc | apply Kd.R_drewN | apply Kd.R_drew)); exact HO_3.out⟩, ⟨by (with_reducible repeat (first | apply Kd.R_alloc | apply Kd.R_drewN | apply Kd.R_drew)); exact HO_6.out⟩, ⟨by repeat (first | (with_reducible first | exact HB.out | apply below_alloc | apply pw_below_drewN | apply below_drew1) | exact HB.out)⟩⟩
           case round =>
            clear H'
            try clear c1
            try clear p1
            try clear q1
            try clear hx1
            try clear qi1
            try clear c2
            try clear c2b0
            try clear p2
            try clear q2
            try clear hx2
            try clear qi2
            try clear c3
            try clear c3b0
            try clear q4
            try clear c5
            try clear p6
            try clear c7
            try clear c7b0
            try clear c7b1
            try clear c8
            try clear c8b0
            try clear c8b1
            try clear p9
            try clear q9
            try clear hx9
            try clear qi9
            try clear c10
            try clear c10b0
            try clear c10b1
            try clear c11
            try clear c11b0
            try clear c11b1
            try clear p12
            try clear q12
            try clear hx12
            try clear qi12
            try clear c13
            try clear c14
            try clear c14b0
            try clear c15
            try clear c15b0
            try clear c16
            try clear c16b0
            try clear c16b1
            try clear p17
            try clear q17
            try clear hx17
            try clear qi17
            try clear c18
            try clear c18b0
            try clear c18b1
            try clear c22
            try clear c23
            try clear c23b0
            try clear c23b1
            try clear p23
            try clear q23
            try clear hx23
            try clear p24
            try clear q24
            try clear hx24
            try clear qi24
            try clear c25
            try clear c25b0
            try clear c25b1
            try clear p25
            try clear q25
            try clear hx25
            try clear c26
            try clear p26
            try clear q26
            try clear hx26
            try clear qi26
            try clear c29
            try clear c30
            try clear c30b0
            try clear c33
            try clear c33b0
            try clear c34
            try clear c34b0
            try clear c34b1
            try clear c35
            try clear hx238_0
            try clear hx238_1
            try clear hx239_0
            try clear hx239_1
            try clear hx240_0
            try clear hx240_1
            try clear hx241_0
            try clear hx241_1
            try clear hx242_0
            try clear hx242_1
            try clear hx243_0
            try clear hx243_1
            try clear hx246_0
            try clear hx246_1
            try clear hx251_0
            try clear hx251_1
            try clear hx252_0
            try clear hx252_1
            try clear hx253_0
            try clear hx253_1
            try clear hx254_0
            try clear hx254_1
            try clear hx254_2
            try clear hx254_3
            try clear hx254_4
            try clear hx254_5
            try clear hx255_0
            try clear hx255_1
            try clear hx255_2
            try clear hx255_3
            try clear hx255_4
            try clear hx255_5
            try clear p1
            try clear p12
            try clear p17
            try clear p2
            try clear p23
            try clear p238
            try clear p239
            try clear p24
            try clear p240
            try clear p241
            try clear p242
            try clear p243
            try clear p246
            try clear p25
            try clear p251
            try clear p252
            try clear p253
            try clear p254
            try clear p255
            try clear p26
            try clear p6
            try clear p9
            try clear q1
            try clear q12
            try clear q17
            try clear q2
            try clear q23
            try clear q238
            try clear q239
            try clear q24
            try clear q240
            try clear q241
            try clear q242
            try clear q243
            try clear q246
            try clear q25
            try clear q251
            try clear q252
            try clear q253
            try clear q254
            try clear q255
            try clear q26
            try clear q4
            try clear q9
            obtain ⟨x9_6, rfl, HA, HK6, HO_3, HO_6, HB⟩ := hrel
            cases gk with
            | zero => exact absurd HA.out (by simp [spec_FragmentsKnown.l2])
            | succ k6 =>
             have H := HA.out
             clear HA
             simp only [spec_FragmentsKnown.l2] at H
             by_cases c36 : x9_6 < (x3_4.length : Int)
             rotate_left
             ·rw [if_neg c36] at H
              have c36b0 : decide (x9_6 < (x3_4.length : Int)) = false := decide_eq_false c36
              clear c36
              by_cases c48 : 0 ≤ x8_4
              rotate_left
              ·rw [if_neg c48] at H
               exact absurd H (by simp)
              rw [if_pos c48] at H
              have c48b0 : decide (0 ≤ x8_4) = true := decide_eq_true c48
              clear c48
              by_cases c49 : x8_4 < (t247.length : Int)
              rotate_left
              ·rw [if_neg c49] at H
               exact absurd H (by simp)
              rw [if_pos c49] at H
              have c49b0 : decide (x8_4 < (t247.length : Int)) = true := decide_eq_true c49
              clear c49
              by_cases c50 : x3_4.length < 2513169434916
              rotate_left
              ·rw [if_neg c50] at H
               exact absurd H (by simp)
              rw [if_pos c50] at H
              have LMc50 := Aside0.mk c50
              clear c50
              obtain ⟨y262, hy262⟩ : ∃ y_ : List (S68), y_ = (x3_4 ++ [(⟨(rd_T68 t247 x8_4).f0, (rd_T68 t247 x8_4).f1, (rd_T68 t247 x8_4).f2, (rd_T68 t247 x8_4).f3, (rd_T68 t247 x8_4).f4, (rd_T68 t247 x8_4).f5⟩ : S68)]) := ⟨_, rfl⟩
              replace H : (spec_FragmentsKnown.l1 k6 l0 y262 (wrap64 (x4_1 + (((rd_T40 l0 x5_1).f1).size : Int))) x5_1 t247 (wrap64 (x8_4 + 1))) = some r := by first | (rw [hy262]; with_reducible exact H) | (have H2_ := (Option.bind_some _ _).symm.trans H; rw [hy262]; with_reducible exact H2_) | (have H2_ := (Option.bind_some _ _).symm.trans H; with_reducible exact H2_) | with_reducible exact H | (rw [hy262]; exact H) | exact H
              have Ny262 := Aside0.mk hy262
              clear hy262
              have H' := Aside0.mk H
              clear H
              obtain ⟨Ao51, co51, eo51⟩ := Kd.R_slice HO_3.out
              subst eo51
              have p261 : 0 ≤ (x8_4 : Int) := of_decide_eq_true (by first | (with_reducible assumption) | assumption)
              have q261 : x8_4 < (t247.length : Int) := of_decide_eq_true (by first | (with_reducible assumption) | assumption)
              obtain ⟨ad261, e261, hx261_0, hx261_1, hx261_2, hx261_3, hx261_4, hx261_5⟩ := at_T68 (Kd.R_reads' HO_6.out).2.2 x8_4 p261 q261
              cases e261
              replace p261 := eq_true p261
              replace q261 := eq_true q261
              go_wp2_with (first | ((with_reducible refine gate_builtin (b := .append) (xs := #[.tmp 164, .tmp 169]) rfl ?_); (try (refine gate_guard (by rfl) ?_; dsimp only)); at_builtin; refine Kd.R_append k68 (w0 := w) w.heap.size rfl (.tmp 164) (.tmp 169) 63 68 (.agg #[(.int .u8 0), (.int .i64 0), (.int .i64 0), (.int .i64 0), (.string ⟨#[]⟩), (.int .u16 0)]) 56 rfl Tryd.underlying63 info68 rfl (by decide) (by omega) (.slice Ao51 x3_4.length co51) x3_4 (⟨(rd_T68 t247 x8_4).f0, (rd_T68 t247 x8_4).f1, (rd_T68 t247 x8_4).f2, (rd_T68 t247 x8_4).f3, (rd_T68 t247 x8_4).f4, (rd_T68 t247 x8_4).f5⟩ : S68) [.int .u8 ((rd_T68 t247 x8_4).f0), .int .i64 ((rd_T68 t247 x8_4).f1), .int .i64 ((rd_T68 t247 x8_4).f2), .int .i64 ((rd_T68 t247 x8_4).f3), .string ((rd_T68 t247 x8_4).f4), .int .u16 ((rd_T68 t247 x8_4).f5)] (fun k_ => some k_ ≠ (.slice (some ad261) t247.length co32 : Value).ownBlock) (fun _ => False) rfl rfl ?aP (fun _ hk => hk.elim) ?aF ?aO ?aB ?aS ?aL ?_; (case aP => exact k68_mkM _ _ _ (⟨(rd_T68 t247 x8_4).f0, (rd_T68 t247 x8_4).f1, (rd_T68 t247 x8_4).f2, (rd_T68 t247 x8_4).f3, (rd_T68 t247 x8_4).f4, (rd_T68 t247 x8_4).f5⟩ : S68)); (case aB => exact (by repeat (first | (with_reducible first | exact HB.out | apply below_alloc | apply pw_below_drewN | apply below_drew1) | exact HB.out))); (case aF => exact (fun k_ hk => Kd.fresh' (Kd.R_lt (by (with_reducible repeat (first | apply Kd.R_alloc | apply Kd.R_drewN | apply Kd.R_drew)); exact HO_6.out)) k_ hk)); (case aO => exact (by (with_reducible repeat (first | apply Kd.R_alloc | apply Kd.R_drewN | apply Kd.R_drew)); exact HO_3.out)); (case aS => exact (below_size (by repeat (first | (with_reducible first | exact HB.out | apply below_alloc | apply pw_below_drewN | apply below_drew1) | exact HB.out)))); (case aL => have := LMc50.out; omega); intro v263 w52 ho hb hg hat; rw [← Ny262.out] at ho; have n0_ := Aside0.mk (Kd.R_after (ok := (fun _ => True)) (by (with_reducible repeat (first | apply Kd.R_alloc | apply Kd.R_drewN | apply Kd.R_drew)); exact Kd.R_mono HO_6.out (fun _ hk => ⟨trivial, hk⟩)) hg hat); have n1_ := Aside0.mk (hb); have n2_ := Aside0.mk (ho); clear HO_6; clear HB; clear HO_3; have HO_6 := n0_; have HB := n1_; have HO264 := n2_; clear n0_ n1_ n2_; clear ho hb hg hat))
              go_roundg k6
              case measure => have := HK1.out; have := HJ5.out; have := HJ19.out; have := HK4.out; have := HJ30.out; have := HK6.out; omega
              case rel => exact ⟨(y262), (wrap64 (x8_4 + 1)), (by first | rfl | (simp; done) | (simp [*]; done)), H', ⟨by have := HK1.out; have := HJ5.out; have := HJ19.out; have := HK4.out; have := HJ30.out; have := HK6.out; omega⟩, ⟨by (with_reducible repeat (first | apply Kd.R_alloc | apply Kd.R_drewN | apply Kd.R_drew)); exact HO264.out⟩, ⟨by (with_reducible repeat (first | apply Kd.R_alloc | apply Kd.R_drewN | apply Kd.R_drew)); exact Kd.R_mono HO_6.out (fun _ hk => hk.2)⟩, ⟨by repeat (first | (with_reducible first | exact HB.out | apply below_alloc | apply pw_below_drewN | apply below_drew1) | exact HB.out)⟩⟩
             rw [if_pos c36] at H
             have c36b0 : decide (x9_6 < (x3_4.length : Int)) = true := decide_eq_true c36
             clear c36
             by_cases c37 : 0 ≤ x9_6
             rotate_left
             ·rw [if_neg c37] at H
              exact absurd H (by simp)
             rw [if_pos c37] at H
             have c37b0 : decide (0 ≤ x9_6) = true := decide_eq_true c37
             clear c37
             by_cases c38 : 0 ≤ x8_4
             rotate_left
             ·rw [if_neg c38] at H
              exact absurd H (by simp)
             rw [if_pos c38] at H
             have c38b0 : decide (0 ≤ x8_4) = true := decide_eq_true c38
             clear c38
             by_cases c39 : x8_4 < (t247.length : Int)
             rotate_left
             ·rw [if_neg c39] at H
              exact absurd H (by simp)
             rw [if_pos c39] at H
             have c39b0 : decide (x8_4 < (t247.length : Int)) = true := decide_eq_true c39
             clear c39
             by_cases c40 : ((rd_T68 x3_4 x9_6).f2) = ((rd_T68 t247 x8_4).f2)
             rotate_left
             ·rw [if_neg c40] at H
              have c40b0 : (((rd_T68 x3_4 x9_6).f2) == ((rd_T68 t247 x8_4).f2)) = false := beq_eq_false_iff_ne.mpr c40
              have c40b1 : (((rd_T68 x3_4 x9_6).f2) != ((rd_T68 t247 x8_4).f2)) = true := bne_iff_ne.mpr c40
              have H' := Aside0.mk H
              clear H
              obtain ⟨Ao46, co46, eo46⟩ := Kd.R_slice HO_3.out
              subst eo46
              try go_wp2
              have n0_ := Aside0.mk (Kd.R_drew HO_3.out)
              have n1_ := Aside0.mk (Kd.R_drew HO_6.out)
              have n2_ := Aside0.mk (below_drew1 HB.out)
              clear HO_3
              clear HO_6
              clear HB
              have HO_3 := n0_
              have HO_6 := n1_
              have HB := n2_
              clear n0_ n1_ n2_
              have p256 : 0 ≤ (x9_6 : Int) := of_decide_eq_true (by first | (with_reducible assumption) | assumption)
              have q256 : x9_6 < (x3_4.length : Int) := of_decide_eq_true (by first | (with_reducible assumption) | assumption)
              obtain ⟨ad256, e256, hx256_0, hx256_1, hx256_2, hx256_3, hx256_4, hx256_5⟩ := at_T68 (Kd.R_reads' HO_3.out).2.2 x9_6 p256 q256
              cases e256
              replace p256 := eq_true p256
              replace q256 := eq_true q256
              have p257 : 0 ≤ (x8_4 : Int) := of_decide_eq_true (by first | (with_reducible assumption) | assumption)
              have q257 : x8_4 < (t247.length : Int) := of_decide_eq_true (by first | (with_reducible assumption) | assumption)
              obtain ⟨ad257, e257, hx257_0, hx257_1, hx257_2, hx257_3, hx257_4, hx257_5⟩ := at_T68 (Kd.R_reads' HO_6.out).2.2 x8_4 p257 q257
              cases e257
              replace p257 := eq_true p257
              replace q257 := eq_true q257
              refine start_ (n := 23) (S := fun w' => w'.cell? (ad256.add ((x9_6).toNat * 6)) = some (.int .u8 ((rd_T68 x3_4 x9_6).f0)) ∧ w'.cell? ⟨(ad256.add ((x9_6).toNat * 6)).block, (ad256.add ((x9_6).toNat * 6)).off + 1, none⟩ = some (.int .i64 ((rd_T68 x3_4 x9_6).f1)) ∧ w'.cell? ⟨(ad256.add ((x9_6).toNat * 6)).block, (ad256.add ((x9_6).toNat * 6)).off + 2, none⟩ = some (.int .i64 ((rd_T68 x3_4 x9_6).f2)) ∧ w'.cell? ⟨(ad256.add ((x9_6).toNat * 6)).block, (ad256.add ((x9_6).toNat * 6)).off + 3, none⟩ = some (.int .i64 ((rd_T68 x3_4 x9_6).f3)) ∧ w'.cell? ⟨(ad256.add ((x9_6).toNat * 6)).block, (ad256.add ((x9_6).toNat * 6)).off + 4, none⟩ = some (.string ((rd_T68 x3_4 x9_6).f4)) ∧ w'.cell? ⟨(ad256.add ((x9_6).toNat * 6)).block, (ad256.add ((x9_6).toNat * 6)).off + 5, none⟩ = some (.int .u16 ((rd_T68 x3_4 x9_6).f5)) ∧ w'.cell? (ad257.add ((x8_4).toNat * 6)) = some (.int .u8 ((rd_T68 t247 x8_4).f0)) ∧ w'.cell? ⟨(ad257.add ((x8_4).toNat * 6)).block, (ad257.add ((x8_4).toNat * 6)).off + 1, none⟩ = some (.int .i64 ((rd_T68 t247 x8_4).f1)) ∧ w'.cell? ⟨(ad257.add ((x8_4).toNat * 6)).block, (ad257.add ((x8_4).toNat * 6)).off + 2, none⟩ = some (.int .i64 ((rd_T68 t247 x8_4).f2)) ∧ w'.cell? ⟨(ad257.add ((x8_4).toNat * 6)).block, (ad257.add ((x8_4).toNat * 6)).off + 3, none⟩ = some (.int .i64 ((rd_T68 t247 x8_4).f3)) ∧ w'.cell? ⟨(ad257.add ((x8_4).toNat * 6)).block, (ad257.add ((x8_4).toNat * 6)).off + 4, none⟩ = some (.string ((rd_T68 t247 x8_4).f4)) ∧ w'.cell? ⟨(ad257.add ((x8_4).toNat * 6)).block, (ad257.add ((x8_4).toNat * 6)).off + 5, none⟩ = some (.int .u16 ((rd_T68 t247 x8_4).f5))) (ds := []) #[false, false, false, false, false, false, false, false, false, false, false, false, false, false, false, false, false, false, false, false, false, false, false] (by kernel_rfl) rfl rfl ⟨hx256_0, hx256_1, hx256_2, hx256_3, hx256_4, hx256_5, hx257_0, hx257_1, hx257_2, hx257_3, hx257_4, hx257_5⟩ (fun hHeld => ?_); refine with_tabW spec_FragmentsKnown.tab24 spec_FragmentsKnown.bits24 (fun HT_ HW_ => ?_)
              generalize wr.drew = w47 at HO_3 HO_6 HB hx256_0 hx256_1 hx256_2 hx256_3 hx256_4 hx256_5 hx257_0 hx257_1 hx257_2 hx257_3 hx257_4 hx257_5 hHeld ⊢
              refine pure_ (i := 0) (N := some 141) (v := ?_) (a' := ?_) #[true, false, false, false, false, false, false, false, false, false, false, false, false, false, false, false, false, false, false, false, false, false, false] rfl rfl (any_of HT_.out (by kernel_rfl)) (fun _ _ _ h => h) (Or.inl ⟨by rfl, ?_⟩) ?_ ?_
              rotate_left
              ·intro w'
               go_simp
               with_reducible rfl
              rotate_left
              ·simp only [Act.put, List.setIfInBounds_toArray, List.set_cons_zero, List.set_cons_succ, i64_w, i32_w]
               rfl
              refine pure_ (i := 1) (N := some 142) (v := ?_) (a' := ?_) #[true, true, false, false, false, false, false, false, false, false, false, false, false, false, false, false, false, false, false, false, false, false, false] rfl rfl (any_of HT_.out (by kernel_rfl)) (fun _ _ _ h => h) (Or.inl ⟨by rfl, ?_⟩) ?_ ?_
              rotate_left
              ·intro w'
               go_simp
               with_reducible rfl
              rotate_left
              ·simp only [Act.put, List.setIfInBounds_toArray, List.set_cons_zero, List.set_cons_succ, i64_w, i32_w]
               rfl
              refine pure_ (i := 2) (N := some 143) (v := ?_) (a' := ?_) #[true, true, true, false, false, false, false, false, false, false, false, false, false, false, false, false, false, false, false, false, false, false, false] rfl rfl (any_of HT_.out (by kernel_rfl)) (fun _ _ _ h => h) (Or.inl ⟨by rfl, ?_⟩) ?_ ?_
              rotate_left
              ·intro w'
               go_simp
               with_reducible rfl
              rotate_left
              ·simp only [Act.put, List.setIfInBounds_toArray, List.set_cons_zero, List.set_cons_succ, i64_w, i32_w]
               rfl
              refine pure_ (i := 3) (N := some 144) (v := ?_) (a' := ?_) #[true, true, true, true, false, false, false, false, false, false, false, false, false, false, false, false, false, false, false, false, false, false, false] rfl rfl (any_of HT_.out (by kernel_rfl)) (fun _ _ _ h => h) (Or.inl ⟨by rfl, ?_⟩) ?_ ?_
              rotate_left
              ·intro w'
               go_simp
               with_reducible rfl
              rotate_left
              ·simp only [Act.put, List.setIfInBounds_toArray, List.set_cons_zero, List.set_cons_succ, i64_w, i32_w]
               rfl
              refine pure_ (i := 5) (N := some 146) (v := ?_) (a' := ?_) #[true, true, true, true, false, true, false, false, false, false, false, false, false, false, false, false, false, false, false, false, false, false, false] rfl rfl (any_of HT_.out (by kernel_rfl)) (fun _ _ _ h => h) (Or.inl ⟨by rfl, ?_⟩) ?_ ?_
              rotate_left
              ·intro w'
               go_simp
               with_reducible rfl
              rotate_left
              ·simp only [Act.put, List.setIfInBounds_toArray, List.set_cons_zero, List.set_cons_succ, i64_w, i32_w]
               rfl
              refine pure_ (i := 6) (N := some 147) (v := ?_) (a' := ?_) #[true, true, true, true, false, true, true, false, false, false, false, false, false, false, false, false, false, false, false, false, false, false, false] rfl rfl (any_of HT_.out (by kernel_rfl)) (fun _ _ _ h => h) (Or.inl ⟨by rfl, ?_⟩) ?_ ?_
              rotate_left
              ·intro w'
               go_simp
               with_reducible rfl
              rotate_left
              ·simp only [Act.put, List.setIfInBounds_toArray, List.set_cons_zero, List.set_cons_succ, i64_w, i32_w]
               rfl
              refine pure_ (i := 7) (N := some 148) (v := ?_) (a' := ?_) #[true, true, true, true, false, true, true, true, false, false, false, false, false, false, false, false, false, false, false, false, false, false, false] rfl rfl (any_of HT_.out (by kernel_rfl)) (fun _ _ _ h => h) (Or.inl ⟨by rfl, ?_⟩) ?_ ?_
              rotate_left
              ·intro w'
               go_simp
               with_reducible rfl
              rotate_left
              ·simp only [Act.put, List.setIfInBounds_toArray, List.set_cons_zero, List.set_cons_succ, i64_w, i32_w]
               rfl
              refine pure_ (i := 8) (N := some 149) (v := ?_) (a' := ?_) #[true, true, true, true, false, true, true, true, true, false, false, false, false, false, false, false, false, false, false, false, false, false, false] rfl rfl (any_of HT_.out (by kernel_rfl)) (fun _ _ _ h => h) (Or.inl ⟨by rfl, ?_⟩) ?_ ?_
              rotate_left
              ·intro w'
               go_simp
               with_reducible rfl
              rotate_left
              ·simp only [Act.put, List.setIfInBounds_toArray, List.set_cons_zero, List.set_cons_succ, i64_w, i32_w]
               rfl
              refine take_ (i := 4) (N := some 145) (v := ?_) (a' := ?_) #[true, true, true, true, true, true, true, true, true, false, false, false, false, false, false, false, false, false, false, false, false, false, false] rfl rfl (take_ofW HT_.out HW_.out (by kernel_rfl)) (fun _ _ _ h => h) (Or.inl ⟨by rfl, ?_⟩) hHeld ?_ ?_
              rotate_left
              ·rintro w' ⟨s0, s1, s2, s3, s4, s5, s6, s7, s8, s9, s10, s11⟩
               go_simp
               with_reducible rfl
              rotate_left
              ·simp only [Act.put, List.setIfInBounds_toArray, List.set_cons_zero, List.set_cons_succ, i64_w, i32_w]
               rfl
              refine take_ (i := 9) (N := some 150) (v := ?_) (a' := ?_) #[true, true, true, true, true, true, true, true, true, true, false, false, false, false, false, false, false, false, false, false, false, false, false] rfl rfl (take_ofW HT_.out HW_.out (by kernel_rfl)) (fun _ _ _ h => h) (Or.inl ⟨by rfl, ?_⟩) hHeld ?_ ?_
              rotate_left
              ·rintro w' ⟨s0, s1, s2, s3, s4, s5, s6, s7, s8, s9, s10, s11⟩
               go_simp
               with_reducible rfl
              rotate_left
              ·simp only [Act.put, List.setIfInBounds_toArray, List.set_cons_zero, List.set_cons_succ, i64_w, i32_w]
               rfl
              refine pure_ (i := 10) (N := some 151) (v := ?_) (a' := ?_) #[true, true, true, true, true, true, true, true, true, true, true, false, false, false, false, false, false, false, false, false, false, false, false] rfl rfl (any_of HT_.out (by kernel_rfl)) (fun _ _ _ h => h) (Or.inl ⟨by rfl, ?_⟩) ?_ ?_
              rotate_left
              ·intro w'
               go_simp
               with_reducible rfl
              rotate_left
              ·simp only [Act.put, List.setIfInBounds_toArray, List.set_cons_zero, List.set_cons_succ, i64_w, i32_w]
               rfl
              refine pure_ (i := 11) (N := some 152) (v := ?_) (a' := ?_) #[true, true, true, true, true, true, true, true, true, true, true, true, false, false, false, false, false, false, false, false, false, false, false] rfl rfl (any_of HT_.out (by kernel_rfl)) (fun _ _ _ h => h) (Or.inl ⟨by rfl, ?_⟩) ?_ ?_
              rotate_left
              ·intro w'
               go_simp
               with_reducible rfl
              rotate_left
              ·simp only [Act.put, List.setIfInBounds_toArray, List.set_cons_zero, List.set_cons_succ, i64_w, i32_w]
               rfl
              refine pure_ (i := 12) (N := some 153) (v := undef) (a' := ?_) #[true, true, true, true, true, true, true, true, true, true, true, true, true, false, false, false, false, false, false, false, false, false, false] rfl rfl (any_of HT_.out (by kernel_rfl)) (fun _ _ _ h => h) (Or.inr ⟨by rfl, rfl⟩) ?_ ?_
              rotate_left
              ·simp only [Act.put, List.setIfInBounds_toArray, List.set_cons_zero, List.set_cons_succ, i64_w, i32_w]
               rfl
              refine pure_ (i := 13) (N := some 154) (v := undef) (a' := ?_) #[true, true, true, true, true, true, true, true, true, true, true, true, true, true, false, false, false, false, false, false, false, false, false] rfl rfl (any_of HT_.out (by kernel_rfl)) (fun _ _ _ h => h) (Or.inr ⟨by rfl, rfl⟩) ?_ ?_
              rotate_left
              ·simp only [Act.put, List.setIfInBounds_toArray, List.set_cons_zero, List.set_cons_succ, i64_w, i32_w]
               rfl
              refine pure_ (i := 14) (N := some 155) (v := undef) (a' := ?_) #[true, true, true, true, true, true, true, true, true, true, true, true, true, true, true, false, false, false, false, false, false, false, false] rfl rfl (any_of HT_.out (by kernel_rfl)) (fun _ _ _ h => h) (Or.inr ⟨by rfl, rfl⟩) ?_ ?_
              rotate_left
              ·simp only [Act.put, List.setIfInBounds_toArray, List.set_cons_zero, List.set_cons_succ, i64_w, i32_w]
               rfl
              refine pure_ (i := 15) (N := some 156) (v := undef) (a' := ?_) #[true, true, true, true, true, true, true, true, true, true, true, true, true, true, true, true, false, false, false, false, false, false, false] rfl rfl (any_of HT_.out (by kernel_rfl)) (fun _ _ _ h => h) (Or.inr ⟨by rfl, rfl⟩) ?_ ?_
              rotate_left
              ·simp only [Act.put, List.setIfInBounds_toArray, List.set_cons_zero, List.set_cons_succ, i64_w, i32_w]
               rfl
              refine pure_ (i := 16) (N := some 157) (v := undef) (a' := ?_) #[true, true, true, true, true, true, true, true, true, true, true, true, true, true, true, true, true, false, false, false, false, false, false] rfl rfl (any_of HT_.out (by kernel_rfl)) (fun _ _ _ h => h) (Or.inr ⟨by rfl, rfl⟩) ?_ ?_
              rotate_left
              ·simp only [Act.put, List.setIfInBounds_toArray, List.set_cons_zero, List.set_cons_succ, i64_w, i32_w]
               rfl
              refine pure_ (i := 17) (N := some 158) (v := undef) (a' := ?_) #[true, true, true, true, true, true, true, true, true, true, true, true, true, true, true, true, true, true, false, false, false, false, false] rfl rfl (any_of HT_.out (by kernel_rfl)) (fun _ _ _ h => h) (Or.inr ⟨by rfl, rfl⟩) ?_ ?_
              rotate_left
              ·simp only [Act.put, List.setIfInBounds_toArray, List.set_cons_zero, List.set_cons_succ, i64_w, i32_w]
               rfl
              refine pure_ (i := 18) (N := some 159) (v := undef) (a' := ?_) #[true, true, true, true, true, true, true, true, true, true, true, true, true, true, true, true, true, true, true, false, false, false, false] rfl rfl (any_of HT_.out (by kernel_rfl)) (fun _ _ _ h => h) (Or.inr ⟨by rfl, rfl⟩) ?_ ?_
              rotate_left
              ·simp only [Act.put, List.setIfInBounds_toArray, List.set_cons_zero, List.set_cons_succ, i64_w, i32_w]
               rfl
              refine pure_ (i := 19) (N := some 160) (v := undef) (a' := ?_) #[true, true, true, true, true, true, true, true, true, true, true, true, true, true, true, true, true, true, true, true, false, false, false] rfl rfl (any_of HT_.out (by kernel_rfl)) (fun _ _ _ h => h) (Or.inr ⟨by rfl, rfl⟩) ?_ ?_
              rotate_left
              ·simp only [Act.put, List.setIfInBounds_toArray, List.set_cons_zero, List.set_cons_succ, i64_w, i32_w]
               rfl
              refine pure_ (i := 20) (N := some 161) (v := undef) (a' := ?_) #[true, true, true, true, true, true, true, true, true, true, true, true, true, true, true, true, true, true, true, true, true, false, false] rfl rfl (any_of HT_.out (by kernel_rfl)) (fun _ _ _ h => h) (Or.inr ⟨by rfl, rfl⟩) ?_ ?_
              rotate_left
              ·simp only [Act.put, List.setIfInBounds_toArray, List.set_cons_zero, List.set_cons_succ, i64_w, i32_w]
               rfl
              refine pure_ (i := 21) (N := some 162) (v := undef) (a' := ?_) #[true, true, true, true, true, true, true, true, true, true, true, true, true, true, true, true, true, true, true, true, true, true, false] rfl rfl (any_of HT_.out (by kernel_rfl)) (fun _ _ _ h => h) (Or.inr ⟨by rfl, rfl⟩) ?_ ?_
              rotate_left
              ·simp only [Act.put, List.setIfInBounds_toArray, List.set_cons_zero, List.set_cons_succ, i64_w, i32_w]
               rfl
              refine pure_ (i := 22) (N := some 163) (v := ?_) (a' := ?_) #[true, true, true, true, true, true, true, true, true, true, true, true, true, true, true, true, true, true, true, true, true, true, true] rfl rfl (any_of HT_.out (by kernel_rfl)) (fun _ _ _ h => h) (Or.inl ⟨by rfl, ?_⟩) ?_ ?_
              rotate_left
              ·intro w'
               go_simp
               with_reducible rfl
              rotate_left
              ·simp only [Act.put, List.setIfInBounds_toArray, List.set_cons_zero, List.set_cons_succ, i64_w, i32_w]
               rfl
              refine done_ (done_of HT_.out (by kernel_rfl)) ?_
              try go_wp2
              go_roundg k6
              case measure => have := HK1.out; have := HJ5.out; have := HJ19.out; have := HK4.out; have := HJ30.out; have := HK6.out; omega
              case rel => exact ⟨(wrap64 (x9_6 + 1)), (by first | rfl | (simp; done) | (simp [*]; done)), H', ⟨by have := HK1.out; have := HJ5.out; have := HJ19.out; have := HK4.out; have := HJ30.out; have := HK6.out; omega⟩, ⟨by (with_reducible repeat (first | apply Kd.R_alloc | apply Kd.R_drewN | apply Kd.R_drew)); exact HO_3.out⟩, ⟨by (with_reducible repeat (first | apply Kd.R_alloc | apply Kd.R_drewN | apply Kd.R_drew)); exact HO_6.out⟩, ⟨by repeat (first | (with_reducible first | exact HB.out | apply below_alloc | apply pw_below_drewN | apply below_drew1) | exact HB.out)⟩⟩
             rw [if_pos c40] at H
             have c40b0 : (((rd_T68 x3_4 x9_6).f2) == ((rd_T68 t247 x8_4).f2)) = true := beq_iff_eq.mpr c40
             have c40b1 : (((rd_T68 x3_4 x9_6).f2) != ((rd_T68 t247 x8_4).f2)) = false := bne_eq_false_iff_eq.mpr c40
             clear c40
             replace H := Option.bind_eq_some_iff.mp H
             obtain ⟨t260, A410, H⟩ := H
             replace H : (if t260 = true then (spec_FragmentsKnown.l2 k6 l0 x3_4 (wrap64 (x4_1 + (((rd_T40 l0 x5_1).f1).size : Int))) x5_1 t247 x8_4 (wrap64 (x9_6 + 1))) else (none)) = some r := H
             have A41 := Aside0.mk A410
             clear A410
             by_cases c42 : t260 = true
             rotate_left
             ·replace c42 := Bool.eq_false_iff.mpr c42
              subst c42
              have H1 : (none) = some r := by rw [if_neg (show ¬ (false = true) by decide)] at H; exact H
              clear H
              have H := H1
              clear H1
              exact absurd H (by simp)
             subst c42
             have H1 : (spec_FragmentsKnown.l2 k6 l0 x3_4 (wrap64 (x4_1 + (((rd_T40 l0 x5_1).f1).size : Int))) x5_1 t247 x8_4 (wrap64 (x9_6 + 1))) = some r := by rw [if_pos rfl] at H; exact H
             clear H
             have H := H1
             clear H1
             have H' := Aside0.mk H
             clear H
             obtain ⟨Ao43, co43, eo43⟩ := Kd.R_slice HO_3.out
             subst eo43
             try go_wp2
             have n0_ := Aside0.mk (Kd.R_drew HO_3.out)
             have n1_ := Aside0.mk (Kd.R_drew HO_6.out)
             have n2_ := Aside0.mk (below_drew1 HB.out)
             clear HO_3
             clear HO_6
             clear HB
             have HO_3 := n0_
             have HO_6 := n1_
             have HB := n2_
             clear n0_ n1_ n2_
             have p256 : 0 ≤ (x9_6 : Int) := of_decide_eq_true (by first | (with_reducible assumption) | assumption)
             have q256 : x9_6 < (x3_4.length : Int) := of_decide_eq_true (by first | (with_reducible assumption) | assumption)
             obtain ⟨ad256, e256, hx256_0, hx256_1, hx256_2, hx256_3, hx256_4, hx256_5⟩ := at_T68 (Kd.R_reads' HO_3.out).2.2 x9_6 p256 q256
             cases e256
             replace p256 := eq_true p256
             replace q256 := eq_true q256
             have p257 : 0 ≤ (x8_4 : Int) := of_decide_eq_true (by first | (with_reducible assumption) | assumption)
             have q257 : x8_4 < (t247.length : Int) := of_decide_eq_true (by first | (with_reducible assumption) | assumption)
             obtain ⟨ad257, e257, hx257_0, hx257_1, hx257_2, hx257_3, hx257_4, hx257_5⟩ := at_T68 (Kd.R_reads' HO_6.out).2.2 x8_4 p257 q257
             cases e257
             replace p257 := eq_true p257
             replace q257 := eq_true q257
             have p258 : 0 ≤ (x9_6 : Int) := of_decide_eq_true (by first | (with_reducible assumption) | assumption)
             have q258 : x9_6 < (x3_4.length : Int) := of_decide_eq_true (by first | (with_reducible assumption) | assumption)
             obtain ⟨ad258, e258, hx258_0, hx258_1, hx258_2, hx258_3, hx258_4, hx258_5⟩ := at_T68 (Kd.R_reads' HO_3.out).2.2 x9_6 p258 q258
             obtain rfl : ad256 = ad258 := (by injection e258)
             replace p258 := eq_true p258
             replace q258 := eq_true q258
             have p259 : 0 ≤ (x8_4 : Int) := of_decide_eq_true (by first | (with_reducible assumption) | assumption)
             have q259 : x8_4 < (t247.length : Int) := of_decide_eq_true (by first | (with_reducible assumption) | assumption)
             obtain ⟨ad259, e259, hx259_0, hx259_1, hx259_2, hx259_3, hx259_4, hx259_5⟩ := at_T68 (Kd.R_reads' HO_6.out).2.2 x8_4 p259 q259
             obtain rfl : ad257 = ad259 := (by injection e259)
             replace p259 := eq_true p259
             replace q259 := eq_true q259
             refine start_ (n := 23) (S := fun w' => w'.cell? (ad256.add ((x9_6).toNat * 6)) = some (.int .u8 ((rd_T68 x3_4 x9_6).f0)) ∧ w'.cell? ⟨(ad256.add ((x9_6).toNat * 6)).block, (ad256.add ((x9_6).toNat * 6)).off + 1, none⟩ = some (.int .i64 ((rd_T68 x3_4 x9_6).f1)) ∧ w'.cell? ⟨(ad256.add ((x9_6).toNat * 6)).block, (ad256.add ((x9_6).toNat * 6)).off + 2, none⟩ = some (.int .i64 ((rd_T68 x3_4 x9_6).f2)) ∧ w'.cell? ⟨(ad256.add ((x9_6).toNat * 6)).block, (ad256.add ((x9_6).toNat * 6)).off + 3, none⟩ = some (.int .i64 ((rd_T68 x3_4 x9_6).f3)) ∧ w'.cell? ⟨(ad256.add ((x9_6).toNat * 6)).block, (ad256.add ((x9_6).toNat * 6)).off + 4, none⟩ = some (.string ((rd_T68 x3_4 x9_6).f4)) ∧ w'.cell? ⟨(ad256.add ((x9_6).toNat * 6)).block, (ad256.add ((x9_6).toNat * 6)).off + 5, none⟩ = some (.int .u16 ((rd_T68 x3_4 x9_6).f5)) ∧ w'.cell? (ad257.add ((x8_4).toNat * 6)) = some (.int .u8 ((rd_T68 t247 x8_4).f0)) ∧ w'.cell? ⟨(ad257.add ((x8_4).toNat * 6)).block, (ad257.add ((x8_4).toNat * 6)).off + 1, none⟩ = some (.int .i64 ((rd_T68 t247 x8_4).f1)) ∧ w'.cell? ⟨(ad257.add ((x8_4).toNat * 6)).block, (ad257.add ((x8_4).toNat * 6)).off + 2, none⟩ = some (.int .i64 ((rd_T68 t247 x8_4).f2)) ∧ w'.cell? ⟨(ad257.add ((x8_4).toNat * 6)).block, (ad257.add ((x8_4).toNat * 6)).off + 3, none⟩ = some (.int .i64 ((rd_T68 t247 x8_4).f3)) ∧ w'.cell? ⟨(ad257.add ((x8_4).toNat * 6)).block, (ad257.add ((x8_4).toNat * 6)).off + 4, none⟩ = some (.string ((rd_T68 t247 x8_4).f4)) ∧ w'.cell? ⟨(ad257.add ((x8_4).toNat * 6)).block, (ad257.add ((x8_4).toNat * 6)).off + 5, none⟩ = some (.int .u16 ((rd_T68 t247 x8_4).f5)) ∧ w'.cell? (ad256.add ((x9_6).toNat * 6)) = some (.int .u8 ((rd_T68 x3_4 x9_6).f0)) ∧ w'.cell? ⟨(ad256.add ((x9_6).toNat * 6)).block, (ad256.add ((x9_6).toNat * 6)).off + 1, none⟩ = some (.int .i64 ((rd_T68 x3_4 x9_6).f1)) ∧ w'.cell? ⟨(ad256.add ((x9_6).toNat * 6)).block, (ad256.add ((x9_6).toNat * 6)).off + 2, none⟩ = some (.int .i64 ((rd_T68 x3_4 x9_6).f2)) ∧ w'.cell? ⟨(ad256.add ((x9_6).toNat * 6)).block, (ad256.add ((x9_6).toNat * 6)).off + 3, none⟩ = some (.int .i64 ((rd_T68 x3_4 x9_6).f3)) ∧ w'.cell? ⟨(ad256.add ((x9_6).toNat * 6)).block, (ad256.add ((x9_6).toNat * 6)).off + 4, none⟩ = some (.string ((rd_T68 x3_4 x9_6).f4)) ∧ w'.cell? ⟨(ad256.add ((x9_6).toNat * 6)).block, (ad256.add ((x9_6).toNat * 6)).off + 5, none⟩ = some (.int .u16 ((rd_T68 x3_4 x9_6).f5)) ∧ w'.cell? (ad257.add ((x8_4).toNat * 6)) = some (.int .u8 ((rd_T68 t247 x8_4).f0)) ∧ w'.cell? ⟨(ad257.add ((x8_4).toNat * 6)).block, (ad257.add ((x8_4).toNat * 6)).off + 1, none⟩ = some (.int .i64 ((rd_T68 t247 x8_4).f1)) ∧ w'.cell? ⟨(ad257.add ((x8_4).toNat * 6)).block, (ad257.add ((x8_4).toNat * 6)).off + 2, none⟩ = some (.int .i64 ((rd_T68 t247 x8_4).f2)) ∧ w'.cell? ⟨(ad257.add ((x8_4).toNat * 6)).block, (ad257.add ((x8_4).toNat * 6)).off + 3, none⟩ = some (.int .i64 ((rd_T68 t247 x8_4).f3)) ∧ w'.cell? ⟨(ad257.add ((x8_4).toNat * 6)).block, (ad257.add ((x8_4).toNat * 6)).off + 4, none⟩ = some (.string ((rd_T68 t247 x8_4).f4)) ∧ w'.cell? ⟨(ad257.add ((x8_4).toNat * 6)).block, (ad257.add ((x8_4).toNat * 6)).off + 5, none⟩ = some (.int .u16 ((rd_T68 t247 x8_4).f5))) (ds := []) #[false, false, false, false, false, false, false, false, false, false, false, false, false, false, false, false, false, false, false, false, false, false, false] (by kernel_rfl) rfl rfl ⟨hx256_0, hx256_1, hx256_2, hx256_3, hx256_4, hx256_5, hx257_0, hx257_1, hx257_2, hx257_3, hx257_4, hx257_5, hx258_0, hx258_1, hx258_2, hx258_3, hx258_4, hx258_5, hx259_0, hx259_1, hx259_2, hx259_3, hx259_4, hx259_5⟩ (fun hHeld => ?_); refine with_tabW spec_FragmentsKnown.tab24 spec_FragmentsKnown.bits24 (fun HT_ HW_ => ?_)
             generalize wr.drew = w44 at HO_3 HO_6 HB hx256_0 hx256_1 hx256_2 hx256_3 hx256_4 hx256_5 hx257_0 hx257_1 hx257_2 hx257_3 hx257_4 hx257_5 hx258_0 hx258_1 hx258_2 hx258_3 hx258_4 hx258_5 hx259_0 hx259_1 hx259_2 hx259_3 hx259_4 hx259_5 hHeld ⊢
             refine pure_ (i := 0) (N := some 141) (v := ?_) (a' := ?_) #[true, false, false, false, false, false, false, false, false, false, false, false, false, false, false, false, false, false, false, false, false, false, false] rfl rfl (any_of HT_.out (by kernel_rfl)) (fun _ _ _ h => h) (Or.inl ⟨by rfl, ?_⟩) ?_ ?_
             rotate_left
             ·intro w'
              go_simp
              with_reducible rfl
             rotate_left
             ·simp only [Act.put, List.setIfInBounds_toArray, List.set_cons_zero, List.set_cons_succ, i64_w, i32_w]
              rfl
             refine pure_ (i := 1) (N := some 142) (v := ?_) (a' := ?_) #[true, true, false, false, false, false, false, false, false, false, false, false, false, false, false, false, false, false, false, false, false, false, false] rfl rfl (any_of HT_.out (by kernel_rfl)) (fun _ _ _ h => h) (Or.inl ⟨by rfl, ?_⟩) ?_ ?_
             rotate_left
             ·intro w'
              go_simp
              with_reducible rfl
             rotate_left
             ·simp only [Act.put, List.setIfInBounds_toArray, List.set_cons_zero, List.set_cons_succ, i64_w, i32_w]
              rfl
             refine pure_ (i := 2) (N := some 143) (v := ?_) (a' := ?_) #[true, true, true, false, false, false, false, false, false, false, false, false, false, false, false, false, false, false, false, false, false, false, false] rfl rfl (any_of HT_.out (by kernel_rfl)) (fun _ _ _ h => h) (Or.inl ⟨by rfl, ?_⟩) ?_ ?_
             rotate_left
             ·intro w'
              go_simp
              with_reducible rfl
             rotate_left
             ·simp only [Act.put, List.setIfInBounds_toArray, List.set_cons_zero, List.set_cons_succ, i64_w, i32_w]
              rfl
             refine pure_ (i := 3) (N := some 144) (v := ?_) (a' := ?_) #[true, true, true, true, false, false, false, false, false, false, false, false, false, false, false, false, false, false, false, false, false, false, false] rfl rfl (any_of HT_.out (by kernel_rfl)) (fun _ _ _ h => h) (Or.inl ⟨by rfl, ?_⟩) ?_ ?_
             rotate_left
             ·intro w'
              go_simp
              with_reducible rfl
             rotate_left
             ·simp only [Act.put, List.setIfInBounds_toArray, List.set_cons_zero, List.set_cons_succ, i64_w, i32_w]
              rfl
             refine pure_ (i := 5) (N := some 146) (v := ?_) (a' := ?_) #[true, true, true, true, false, true, false, false, false, false, false, false, false, false, false, false, false, false, false, false, false, false, false] rfl rfl (any_of HT_.out (by kernel_rfl)) (fun _ _ _ h => h) (Or.inl ⟨by rfl, ?_⟩) ?_ ?_
             rotate_left
             ·intro w'
              go_simp
              with_reducible rfl
             rotate_left
             ·simp only [Act.put, List.setIfInBounds_toArray, List.set_cons_zero, List.set_cons_succ, i64_w, i32_w]
              rfl
             refine pure_ (i := 6) (N := some 147) (v := ?_) (a' := ?_) #[true, true, true, true, false, true, true, false, false, false, false, false, false, false, false, false, false, false, false, false, false, false, false] rfl rfl (any_of HT_.out (by kernel_rfl)) (fun _ _ _ h => h) (Or.inl ⟨by rfl, ?_⟩) ?_ ?_
             rotate_left
             ·intro w'
              go_simp
              with_reducible rfl
             rotate_left
             ·simp only [Act.put, List.setIfInBounds_toArray, List.set_cons_zero, List.set_cons_succ, i64_w, i32_w]
              rfl
             refine pure_ (i := 7) (N := some 148) (v := ?_) (a' := ?_) #[true, true, true, true, false, true, true, true, false, false, false, false, false, false, false, false, false, false, false, false, false, false, false] rfl rfl (any_of HT_.out (by kernel_rfl)) (fun _ _ _ h => h) (Or.inl ⟨by rfl, ?_⟩) ?_ ?_
             rotate_left
             ·intro w'
              go_simp
              with_reducible rfl
             rotate_left
             ·simp only [Act.put, List.setIfInBounds_toArray, List.set_cons_zero, List.set_cons_succ, i64_w, i32_w]
              rfl
             refine pure_ (i := 8) (N := some 149) (v := ?_) (a' := ?_) #[true, true, true, true, false, true, true, true, true, false, false, false, false, false, false, false, false, false, false, false, false, false, false] rfl rfl (any_of HT_.out (by kernel_rfl)) (fun _ _ _ h => h) (Or.inl ⟨by rfl, ?_⟩) ?_ ?_
             rotate_left
             ·intro w'
              go_simp
              with_reducible rfl
             rotate_left
             ·simp only [Act.put, List.setIfInBounds_toArray, List.set_cons_zero, List.set_cons_succ, i64_w, i32_w]
              rfl
             refine take_ (i := 4) (N := some 145) (v := ?_) (a' := ?_) #[true, true, true, true, true, true, true, true, true, false, false, false, false, false, false, false, false, false, false, false, false, false, false] rfl rfl (take_ofW HT_.out HW_.out (by kernel_rfl)) (fun _ _ _ h => h) (Or.inl ⟨by rfl, ?_⟩) hHeld ?_ ?_
             rotate_left
             ·rintro w' ⟨s0, s1, s2, s3, s4, s5, s6, s7, s8, s9, s10, s11, s12, s13, s14, s15, s16, s17, s18, s19, s20, s21, s22, s23⟩
              go_simp
              with_reducible rfl
             rotate_left
             ·simp only [Act.put, List.setIfInBounds_toArray, List.set_cons_zero, List.set_cons_succ, i64_w, i32_w]
              rfl
             refine take_ (i := 9) (N := some 150) (v := ?_) (a' := ?_) #[true, true, true, true, true, true, true, true, true, true, false, false, false, false, false, false, false, false, false, false, false, false, false] rfl rfl (take_ofW HT_.out HW_.out (by kernel_rfl)) (fun _ _ _ h => h) (Or.inl ⟨by rfl, ?_⟩) hHeld ?_ ?_
             rotate_left
             ·rintro w' ⟨s0, s1, s2, s3, s4, s5, s6, s7, s8, s9, s10, s11, s12, s13, s14, s15, s16, s17, s18, s19, s20, s21, s22, s23⟩
              go_simp
              with_reducible rfl
             rotate_left
             ·simp only [Act.put, List.setIfInBounds_toArray, List.set_cons_zero, List.set_cons_succ, i64_w, i32_w]
              rfl
             refine pure_ (i := 10) (N := some 151) (v := ?_) (a' := ?_) #[true, true, true, true, true, true, true, true, true, true, true, false, false, false, false, false, false, false, false, false, false, false, false] rfl rfl (any_of HT_.out (by kernel_rfl)) (fun _ _ _ h => h) (Or.inl ⟨by rfl, ?_⟩) ?_ ?_
             rotate_left
             ·intro w'
              go_simp
              with_reducible rfl
             rotate_left
             ·simp only [Act.put, List.setIfInBounds_toArray, List.set_cons_zero, List.set_cons_succ, i64_w, i32_w]
              rfl
             refine pure_ (i := 11) (N := some 152) (v := ?_) (a' := ?_) #[true, true, true, true, true, true, true, true, true, true, true, true, false, false, false, false, false, false, false, false, false, false, false] rfl rfl (any_of HT_.out (by kernel_rfl)) (fun _ _ _ h => h) (Or.inl ⟨by rfl, ?_⟩) ?_ ?_
             rotate_left
             ·intro w'
              go_simp
              with_reducible rfl
             rotate_left
             ·simp only [Act.put, List.setIfInBounds_toArray, List.set_cons_zero, List.set_cons_succ, i64_w, i32_w]
              rfl
             refine pure_ (i := 12) (N := some 153) (v := ?_) (a' := ?_) #[true, true, true, true, true, true, true, true, true, true, true, true, true, false, false, false, false, false, false, false, false, false, false] rfl rfl (any_of HT_.out (by kernel_rfl)) (fun _ _ _ h => h) (Or.inl ⟨by rfl, ?_⟩) ?_ ?_
             rotate_left
             ·intro w'
              go_simp
              with_reducible rfl
             rotate_left
             ·simp only [Act.put, List.setIfInBounds_toArray, List.set_cons_zero, List.set_cons_succ, i64_w, i32_w]
              rfl
             refine pure_ (i := 13) (N := some 154) (v := ?_) (a' := ?_) #[true, true, true, true, true, true, true, true, true, true, true, true, true, true, false, false, false, false, false, false, false, false, false] rfl rfl (any_of HT_.out (by kernel_rfl)) (fun _ _ _ h => h) (Or.inl ⟨by rfl, ?_⟩) ?_ ?_
             rotate_left
             ·intro w'
              go_simp
              with_reducible rfl
             rotate_left
             ·simp only [Act.put, List.setIfInBounds_toArray, List.set_cons_zero, List.set_cons_succ, i64_w, i32_w]
              rfl
             refine pure_ (i := 14) (N := some 155) (v := ?_) (a' := ?_) #[true, true, true, true, true, true, true, true, true, true, true, true, true, true, true, false, false, false, false, false, false, false, false] rfl rfl (any_of HT_.out (by kernel_rfl)) (fun _ _ _ h => h) (Or.inl ⟨by rfl, ?_⟩) ?_ ?_
             rotate_left
             ·intro w'
              go_simp
              with_reducible rfl
             rotate_left
             ·simp only [Act.put, List.setIfInBounds_toArray, List.set_cons_zero, List.set_cons_succ, i64_w, i32_w]
              rfl
             refine pure_ (i := 16) (N := some 157) (v := ?_) (a' := ?_) #[true, true, true, true, true, true, true, true, true, true, true, true, true, true, true, false, true, false, false, false, false, false, false] rfl rfl (any_of HT_.out (by kernel_rfl)) (fun _ _ _ h => h) (Or.inl ⟨by rfl, ?_⟩) ?_ ?_
             rotate_left
             ·intro w'
              go_simp
              with_reducible rfl
             rotate_left
             ·simp only [Act.put, List.setIfInBounds_toArray, List.set_cons_zero, List.set_cons_succ, i64_w, i32_w]
              rfl
             refine pure_ (i := 17) (N := some 158) (v := ?_) (a' := ?_) #[true, true, true, true, true, true, true, true, true, true, true, true, true, true, true, false, true, true, false, false, false, false, false] rfl rfl (any_of HT_.out (by kernel_rfl)) (fun _ _ _ h => h) (Or.inl ⟨by rfl, ?_⟩) ?_ ?_
             rotate_left
             ·intro w'
              go_simp
              with_reducible rfl
             rotate_left
             ·simp only [Act.put, List.setIfInBounds_toArray, List.set_cons_zero, List.set_cons_succ, i64_w, i32_w]
              rfl
             refine pure_ (i := 18) (N := some 159) (v := ?_) (a' := ?_) #[true, true, true, true, true, true, true, true, true, true, true, true, true, true, true, false, true, true, true, false, false, false, false] rfl rfl (any_of HT_.out (by kernel_rfl)) (fun _ _ _ h => h) (Or.inl ⟨by rfl, ?_⟩) ?_ ?_
             rotate_left
             ·intro w'
              go_simp
              with_reducible rfl
             rotate_left
             ·simp only [Act.put, List.setIfInBounds_toArray, List.set_cons_zero, List.set_cons_succ, i64_w, i32_w]
              rfl
             refine take_ (i := 15) (N := some 156) (v := ?_) (a' := ?_) #[true, true, true, true, true, true, true, true, true, true, true, true, true, true, true, true, true, true, true, false, false, false, false] rfl rfl (take_ofW HT_.out HW_.out (by kernel_rfl)) (fun _ _ _ h => h) (Or.inl ⟨by rfl, ?_⟩) hHeld ?_ ?_
             rotate_left
             ·rintro w' ⟨s0, s1, s2, s3, s4, s5, s6, s7, s8, s9, s10, s11, s12, s13, s14, s15, s16, s17, s18, s19, s20, s21, s22, s23⟩
              go_simp
              with_reducible rfl
             rotate_left
             ·simp only [Act.put, List.setIfInBounds_toArray, List.set_cons_zero, List.set_cons_succ, i64_w, i32_w]
              rfl
             refine take_ (i := 19) (N := some 160) (v := ?_) (a' := ?_) #[true, true, true, true, true, true, true, true, true, true, true, true, true, true, true, true, true, true, true, true, false, false, false] rfl rfl (take_ofW HT_.out HW_.out (by kernel_rfl)) (fun _ _ _ h => h) (Or.inl ⟨by rfl, ?_⟩) hHeld ?_ ?_
             rotate_left
             ·rintro w' ⟨s0, s1, s2, s3, s4, s5, s6, s7, s8, s9, s10, s11, s12, s13, s14, s15, s16, s17, s18, s19, s20, s21, s22, s23⟩
              go_simp
              with_reducible rfl
             rotate_left
             ·simp only [Act.put, List.setIfInBounds_toArray, List.set_cons_zero, List.set_cons_succ, i64_w, i32_w]
              rfl
             refine one_ (i := 20) (N := some 161) #[true, true, true, true, true, true, true, true, true, true, true, true, true, true, true, true, true, true, true, true, true, false, false] rfl rfl (one_of HT_.out (by kernel_rfl)) (by decide) (fun K hK => ?_)
             refine goes_ Tryd.func27 (by kernel_rfl) rfl #[.agg #[.int .u8 ((rd_T68 x3_4 x9_6).f0), .int .i64 ((rd_T68 x3_4 x9_6).f1), .int .i64 ((rd_T68 x3_4 x9_6).f2), .int .i64 ((rd_T68 x3_4 x9_6).f3), .string ((rd_T68 x3_4 x9_6).f4), .int .u16 ((rd_T68 x3_4 x9_6).f5)], .agg #[.int .u8 ((rd_T68 t247 x8_4).f0), .int .i64 ((rd_T68 t247 x8_4).f1), .int .i64 ((rd_T68 t247 x8_4).f2), .int .i64 ((rd_T68 t247 x8_4).f3), .string ((rd_T68 t247 x8_4).f4), .int .u16 ((rd_T68 t247 x8_4).f5)]] (by rfl) rfl rfl (by (try simp only [List.map_toArray, List.map_cons, List.map_nil]); first | done | rfl | (simp only [List.length_drop, List.length_take]; rfl)) ?_
             with_reducible refine (spec_alike.calls k6 ((rd_T68 x3_4 x9_6).f0) ((rd_T68 x3_4 x9_6).f1) ((rd_T68 x3_4 x9_6).f2) ((rd_T68 x3_4 x9_6).f3) ((rd_T68 x3_4 x9_6).f4) ((rd_T68 x3_4 x9_6).f5) ((rd_T68 t247 x8_4).f0) ((rd_T68 t247 x8_4).f1) ((rd_T68 t247 x8_4).f2) ((rd_T68 t247 x8_4).f3) ((rd_T68 t247 x8_4).f4) ((rd_T68 t247 x8_4).f5) true _ A41.out).mono ?_
             rintro e w45 ⟨rfl, hb⟩
             have HS0_ := (hb.cell (World.block_lt_of_cell? _ _ (hHeld.1))).trans (hHeld.1)
             have HS1_ := (hb.cell (World.block_lt_of_cell? _ _ (hHeld.2.1))).trans (hHeld.2.1)
             have HS2_ := (hb.cell (World.block_lt_of_cell? _ _ (hHeld.2.2.1))).trans (hHeld.2.2.1)
             have HS3_ := (hb.cell (World.block_lt_of_cell? _ _ (hHeld.2.2.2.1))).trans (hHeld.2.2.2.1)
             have HS4_ := (hb.cell (World.block_lt_of_cell? _ _ (hHeld.2.2.2.2.1))).trans (hHeld.2.2.2.2.1)
             have HS5_ := (hb.cell (World.block_lt_of_cell? _ _ (hHeld.2.2.2.2.2.1))).trans (hHeld.2.2.2.2.2.1)
             have HS6_ := (hb.cell (World.block_lt_of_cell? _ _ (hHeld.2.2.2.2.2.2.1))).trans (hHeld.2.2.2.2.2.2.1)
             have HS7_ := (hb.cell (World.block_lt_of_cell? _ _ (hHeld.2.2.2.2.2.2.2.1))).trans (hHeld.2.2.2.2.2.2.2.1)
             have HS8_ := (hb.cell (World.block_lt_of_cell? _ _ (hHeld.2.2.2.2.2.2.2.2.1))).trans (hHeld.2.2.2.2.2.2.2.2.1)
             have HS9_ := (hb.cell (World.block_lt_of_cell? _ _ (hHeld.2.2.2.2.2.2.2.2.2.1))).trans (hHeld.2.2.2.2.2.2.2.2.2.1)
             have HS10_ := (hb.cell (World.block_lt_of_cell? _ _ (hHeld.2.2.2.2.2.2.2.2.2.2.1))).trans (hHeld.2.2.2.2.2.2.2.2.2.2.1)
             have HS11_ := (hb.cell (World.block_lt_of_cell? _ _ (hHeld.2.2.2.2.2.2.2.2.2.2.2.1))).trans (hHeld.2.2.2.2.2.2.2.2.2.2.2.1)
             have HS12_ := (hb.cell (World.block_lt_of_cell? _ _ (hHeld.2.2.2.2.2.2.2.2.2.2.2.2.1))).trans (hHeld.2.2.2.2.2.2.2.2.2.2.2.2.1)
             have HS13_ := (hb.cell (World.block_lt_of_cell? _ _ (hHeld.2.2.2.2.2.2.2.2.2.2.2.2.2.1))).trans (hHeld.2.2.2.2.2.2.2.2.2.2.2.2.2.1)
             have HS14_ := (hb.cell (World.block_lt_of_cell? _ _ (hHeld.2.2.2.2.2.2.2.2.2.2.2.2.2.2.1))).trans (hHeld.2.2.2.2.2.2.2.2.2.2.2.2.2.2.1)
             have HS15_ := (hb.cell (World.block_lt_of_cell? _ _ (hHeld.2.2.2.2.2.2.2.2.2.2.2.2.2.2.2.1))).trans (hHeld.2.2.2.2.2.2.2.2.2.2.2.2.2.2.2.1)
             have HS16_ := (hb.cell (World.block_lt_of_cell? _ _ (hHeld.2.2.2.2.2.2.2.2.2.2.2.2.2.2.2.2.1))).trans (hHeld.2.2.2.2.2.2.2.2.2.2.2.2.2.2.2.2.1)
             have HS17_ := (hb.cell (World.block_lt_of_cell? _ _ (hHeld.2.2.2.2.2.2.2.2.2.2.2.2.2.2.2.2.2.1))).trans (hHeld.2.2.2.2.2.2.2.2.2.2.2.2.2.2.2.2.2.1)
             have HS18_ := (hb.cell (World.block_lt_of_cell? _ _ (hHeld.2.2.2.2.2.2.2.2.2.2.2.2.2.2.2.2.2.2.1))).trans (hHeld.2.2.2.2.2.2.2.2.2.2.2.2.2.2.2.2.2.2.1)
             have HS19_ := (hb.cell (World.block_lt_of_cell? _ _ (hHeld.2.2.2.2.2.2.2.2.2.2.2.2.2.2.2.2.2.2.2.1))).trans (hHeld.2.2.2.2.2.2.2.2.2.2.2.2.2.2.2.2.2.2.2.1)
             have HS20_ := (hb.cell (World.block_lt_of_cell? _ _ (hHeld.2.2.2.2.2.2.2.2.2.2.2.2.2.2.2.2.2.2.2.2.1))).trans (hHeld.2.2.2.2.2.2.2.2.2.2.2.2.2.2.2.2.2.2.2.2.1)
             have HS21_ := (hb.cell (World.block_lt_of_cell? _ _ (hHeld.2.2.2.2.2.2.2.2.2.2.2.2.2.2.2.2.2.2.2.2.2.1))).trans (hHeld.2.2.2.2.2.2.2.2.2.2.2.2.2.2.2.2.2.2.2.2.2.1)
             have HS22_ := (hb.cell (World.block_lt_of_cell? _ _ (hHeld.2.2.2.2.2.2.2.2.2.2.2.2.2.2.2.2.2.2.2.2.2.2.1))).trans (hHeld.2.2.2.2.2.2.2.2.2.2.2.2.2.2.2.2.2.2.2.2.2.2.1)
             have HS23_ := (hb.cell (World.block_lt_of_cell? _ _ (hHeld.2.2.2.2.2.2.2.2.2.2.2.2.2.2.2.2.2.2.2.2.2.2.2))).trans (hHeld.2.2.2.2.2.2.2.2.2.2.2.2.2.2.2.2.2.2.2.2.2.2.2)
             refine ⟨_, rfl, ?_⟩
             have n0_ := Aside0.mk (Kd.R_below (by (with_reducible repeat (first | apply Kd.R_alloc | apply Kd.R_drewN | apply Kd.R_drew)); exact HO_3.out) hb)
             have n1_ := Aside0.mk (Kd.R_below (by (with_reducible repeat (first | apply Kd.R_alloc | apply Kd.R_drewN | apply Kd.R_drew)); exact HO_6.out) hb)
             have n2_ := Aside0.mk (below_step (by repeat (first | (with_reducible first | exact HB.out | apply below_alloc | apply pw_below_drewN | apply below_drew1) | exact HB.out)) hb)
             clear HO_3
             clear HO_6
             clear HB
             have HO_3 := n0_
             have HO_6 := n1_
             have HB := n2_
             clear n0_ n1_ n2_
             (try clear hb)
             (try clear hb2)
             (try clear hk)
             (try clear hi)
             refine hK.out _ _ ⟨HS0_, HS1_, HS2_, HS3_, HS4_, HS5_, HS6_, HS7_, HS8_, HS9_, HS10_, HS11_, HS12_, HS13_, HS14_, HS15_, HS16_, HS17_, HS18_, HS19_, HS20_, HS21_, HS22_, HS23_⟩ (fun hHeld => ?_)
             clear hK K
             refine norm_ (a' := ?_) ?_ ?_
             rotate_left
             ·show Act.put _ (some 161) _ = _
              simp only [Act.put, List.setIfInBounds_toArray, List.set_cons_zero, List.set_cons_succ, i64_w, i32_w]
              rfl
             refine pure_ (i := 21) (N := some 162) (v := ?_) (a' := ?_) #[true, true, true, true, true, true, true, true, true, true, true, true, true, true, true, true, true, true, true, true, true, true, false] rfl rfl (any_of HT_.out (by kernel_rfl)) (fun _ _ _ h => h) (Or.inl ⟨by rfl, ?_⟩) ?_ ?_
             rotate_left
             ·intro w'
              go_simp
              with_reducible rfl
             rotate_left
             ·simp only [Act.put, List.setIfInBounds_toArray, List.set_cons_zero, List.set_cons_succ, i64_w, i32_w]
              rfl
             refine pure_ (i := 22) (N := some 163) (v := ?_) (a' := ?_) #[true, true, true, true, true, true, true, true, true, true, true, true, true, true, true, true, true, true, true, true, true, true, true] rfl rfl (any_of HT_.out (by kernel_rfl)) (fun _ _ _ h => h) (Or.inl ⟨by rfl, ?_⟩) ?_ ?_
             rotate_left
             ·intro w'
              go_simp
              with_reducible rfl
             rotate_left
             ·simp only [Act.put, List.setIfInBounds_toArray, List.set_cons_zero, List.set_cons_succ, i64_w, i32_w]
              rfl
             refine done_ (done_of HT_.out (by kernel_rfl)) ?_
             try go_wp2
             go_roundg k6
             case measure => have := HK1.out; have := HJ5.out; have := HJ19.out; have := HK4.out; have := HJ30.out; have := HK6.out; omega
             case rel => exact ⟨(wrap64 (x9_6 + 1)), (by first | rfl | (simp; done) | (simp [*]; done)), H', ⟨by have := HK1.out; have := HJ5.out; have := HJ19.out; have := HK4.out; have := HJ30.out; have := HK6.out; omega⟩, ⟨by (with_reducible repeat (first | apply Kd.R_alloc | apply Kd.R_drewN | apply Kd.R_drew)); exact HO_3.out⟩, ⟨by (with_reducible repeat (first | apply Kd.R_alloc | apply Kd.R_drewN | apply Kd.R_drew)); exact HO_6.out⟩, ⟨by repeat (first | (with_reducible first | exact HB.out | apply below_alloc | apply pw_below_drewN | apply below_drew1) | exact HB.out)⟩⟩


end Go.Proofs.YtblmbbllfiigmaaDoor.PAll
