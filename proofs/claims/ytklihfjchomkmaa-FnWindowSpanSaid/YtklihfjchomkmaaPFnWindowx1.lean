-- PRINTED BY print.sh 35421559b90ae4d0a3588c463048766b98c2df88dd9212a6774a882060cdf62d: not written by this session
import Derived.Test.YtklihfjchomkmaaPFnWindowx0
namespace Go.Proofs.Ytklihfjchomkmaa.PFnWindow
open Go.RowKit Go.Proofs.YtklihfjchomkmaaW.PrintWords Go.Proofs.YtklihfjchomkmaaW.PrintLast Go.Proofs.YtklihfjchomkmaaW.PrintMore
attribute [local go_sem] max2_int min2_int max_two min_two max_three min_three max_four min_four   -- for this text's walks alone
set_option linter.unusedVariables false
set_option linter.unusedSimpArgs false

/-! ### laws_windowed: function 11 -/
def laws_windowed.f (a0 : Int) (a1 : Int) (l2 : List Int) (l3 : List Bool) : Option (Bool) := if a0 ≥ 1 then (if a0 ≤ 500 then (if (Int.tmod a0 64) ≤ 32 then (if a1 ≥ (IntKind.u64.wrap (a0)) then (if a1 < 281474976710656 then (if (l2.length : Int) = (l3.length : Int) then (some (decide ((l2.length : Int) ≤ 300))) else (some false)) else (some false)) else (some false)) else (some false)) else (some false)) else (some false)
set_option maxHeartbeats 8000000 in
set_option maxRecDepth 100000 in
theorem laws_windowed.calls (a0 : Int) (a1 : Int) (A2 : Option Addr) (c2 : Nat) (l2 : List Int) (A3 : Option Addr) (c3 : Nat) (l3 : List Bool) (r : Bool) (w : World) (hr2 : Kd.C (Kd.int .u64) w A2 l2.length l2) (hc2 : l2.length ≤ c2) (hr3 : Kd.C Kd.bool w A3 l3.length l3) (hc3 : l3.length ≤ c3) (h : laws_windowed.f a0 a1 l2 l3 = some r) :
    Calls Try.prog 11 #[.int .i64 a0, .int .u64 a1, .slice A2 l2.length c2, .slice A3 l3.length c3] w fun e w' => e = .returned (.bool r) ∧ Drawn0 w w' := by
  have HR2 := Aside0.mk hr2
  have HC2 := Aside0.mk hc2
  clear hr2 hc2
  have HR3 := Aside0.mk hr3
  have HC3 := Aside0.mk hc3
  clear hr3 hc3
  have H : (if a0 ≥ 1 then (if a0 ≤ 500 then (if (Int.tmod a0 64) ≤ 32 then (if a1 ≥ (IntKind.u64.wrap (a0)) then (if a1 < 281474976710656 then (if (l2.length : Int) = (l3.length : Int) then (some (decide ((l2.length : Int) ≤ 300))) else (some false)) else (some false)) else (some false)) else (some false)) else (some false)) else (some false)) = some r := h
  clear h
  by_cases c5 : a0 ≥ 1
  · rw [if_pos c5] at H
    have c5b0 : decide (1 ≤ a0) = true := decide_eq_true c5
    clear c5
    by_cases c6 : a0 ≤ 500
    · rw [if_pos c6] at H
      have c6b0 : decide (a0 ≤ 500) = true := decide_eq_true c6
      clear c6
      by_cases c7 : (Int.tmod a0 64) ≤ 32
      · rw [if_pos c7] at H
        have c7b0 : decide ((Int.tmod a0 64) ≤ 32) = true := decide_eq_true c7
        clear c7
        by_cases c8 : a1 ≥ (IntKind.u64.wrap (a0))
        · rw [if_pos c8] at H
          have c8b0 : decide ((IntKind.u64.wrap (a0)) ≤ a1) = true := decide_eq_true c8
          clear c8
          by_cases c9 : a1 < 281474976710656
          · rw [if_pos c9] at H
            have c9b0 : decide (a1 < 281474976710656) = true := decide_eq_true c9
            clear c9
            by_cases c10 : (l2.length : Int) = (l3.length : Int)
            · rw [if_pos c10] at H
              have c10b0 : ((l2.length : Int) == (l3.length : Int)) = true := beq_iff_eq.mpr c10
              have c10b1 : ((l2.length : Int) != (l3.length : Int)) = false := bne_eq_false_iff_eq.mpr c10
              have c10b2 : (l2.length == l3.length) = true := by first | simpa using c10 | (simp at c10 ⊢; omega)
              clear c10
              obtain rfl := Option.some.inj H
              go_enter Try.func11, Try.ntmps11
              go_wp2
              go_ret
              exact ⟨by first | rfl | (simp; done) | (simp [*]; done), by repeat (first | exact Drawn0.refl _ | apply Drawn0.step)⟩
            · rw [if_neg c10] at H
              have c10b0 : ((l2.length : Int) == (l3.length : Int)) = false := beq_eq_false_iff_ne.mpr c10
              have c10b1 : ((l2.length : Int) != (l3.length : Int)) = true := bne_iff_ne.mpr c10
              have c10b2 : (l2.length == l3.length) = false := by first | simpa using c10 | (simp at c10 ⊢; omega)
              obtain rfl := Option.some.inj H
              go_enter Try.func11, Try.ntmps11
              go_wp2
              go_ret
              exact ⟨by first | rfl | (simp; done) | (simp [*]; done), by repeat (first | exact Drawn0.refl _ | apply Drawn0.step)⟩
          · rw [if_neg c9] at H
            have c9b0 : decide (a1 < 281474976710656) = false := decide_eq_false c9
            clear c9
            obtain rfl := Option.some.inj H
            go_enter Try.func11, Try.ntmps11
            go_wp2
            go_ret
            exact ⟨by first | rfl | (simp; done) | (simp [*]; done), by repeat (first | exact Drawn0.refl _ | apply Drawn0.step)⟩
        · rw [if_neg c8] at H
          have c8b0 : decide ((IntKind.u64.wrap (a0)) ≤ a1) = false := decide_eq_false c8
          clear c8
          obtain rfl := Option.some.inj H
          go_enter Try.func11, Try.ntmps11
          go_wp2
          go_ret
          exact ⟨by first | rfl | (simp; done) | (simp [*]; done), by repeat (first | exact Drawn0.refl _ | apply Drawn0.step)⟩
      · rw [if_neg c7] at H
        have c7b0 : decide ((Int.tmod a0 64) ≤ 32) = false := decide_eq_false c7
        clear c7
        obtain rfl := Option.some.inj H
        go_enter Try.func11, Try.ntmps11
        go_wp2
        go_ret
        exact ⟨by first | rfl | (simp; done) | (simp [*]; done), by repeat (first | exact Drawn0.refl _ | apply Drawn0.step)⟩
    · rw [if_neg c6] at H
      have c6b0 : decide (a0 ≤ 500) = false := decide_eq_false c6
      clear c6
      obtain rfl := Option.some.inj H
      go_enter Try.func11, Try.ntmps11
      go_wp2
      go_ret
      exact ⟨by first | rfl | (simp; done) | (simp [*]; done), by repeat (first | exact Drawn0.refl _ | apply Drawn0.step)⟩
  · rw [if_neg c5] at H
    have c5b0 : decide (1 ≤ a0) = false := decide_eq_false c5
    clear c5
    obtain rfl := Option.some.inj H
    go_enter Try.func11, Try.ntmps11
    go_wp2
    go_ret
    exact ⟨by first | rfl | (simp; done) | (simp [*]; done), by repeat (first | exact Drawn0.refl _ | apply Drawn0.step)⟩

-- NOT PRINTED: function 21 (replaydetector_newFixedBigInt)

-- NOT PRINTED: function 18 (replaydetector_New)

-- NOT PRINTED: function 12 (impl_Replay)

/-! ### spec_hasNumber: function 19 -/
def spec_hasNumber.l0 : Nat → List Int → Int → Int → Option (Bool)
  | 0, _, _, _ => none
  | k + 1, x0, x1, x5 => if x5 < (x0.length : Int) then (if 0 ≤ x5 then (if (rd x0 x5) = x1 then (some true) else (spec_hasNumber.l0 k x0 x1 (wrap64 (x5 + 1)))) else (none)) else (some false)
def spec_hasNumber.f (k : Nat) (l0 : List Int) (a1 : Int) : Option (Bool) := spec_hasNumber.l0 k l0 a1 0
theorem spec_hasNumber.mono_l : ∀ k, (∀ y0 y1 y2, LeO (spec_hasNumber.l0 k y0 y1 y2) (spec_hasNumber.l0 (k + 1) y0 y1 y2))
  | 0 => fun _ _ _ r h => by simp [spec_hasNumber.l0] at h
  | k + 1 => by
    have ih0 := spec_hasNumber.mono_l k
    · intro y0 y1 y2
      unfold spec_hasNumber.l0
      repeat' first
      | (with_reducible exact ih0 _ _ _)
      | (with_reducible exact LeO.refl _)
      | (with_reducible exact LeO.none _)
      | (with_reducible refine LeO.ite ?_ ?_)
      | (with_reducible refine LeO.bind ?_ (fun _ => ?_))
      | exact ih0 _ _ _
      | exact LeO.none _
      | refine LeO.ite ?_ ?_
      | refine LeO.bind ?_ (fun _ => ?_)
theorem spec_hasNumber.mono : ∀ a0 a1 k, LeO (spec_hasNumber.f k a0 a1) (spec_hasNumber.f (k + 1) a0 a1) := by
  intro a0 a1 k
  have ih0 := spec_hasNumber.mono_l k
  unfold spec_hasNumber.f
  repeat' first
      | (with_reducible exact ih0 _ _ _)
      | (with_reducible exact LeO.refl _)
      | (with_reducible exact LeO.none _)
      | (with_reducible refine LeO.ite ?_ ?_)
      | (with_reducible refine LeO.bind ?_ (fun _ => ?_))
      | exact ih0 _ _ _
      | exact LeO.none _
      | refine LeO.ite ?_ ?_
      | refine LeO.bind ?_ (fun _ => ?_)
set_option maxHeartbeats 8000000 in
set_option maxRecDepth 100000 in
theorem spec_hasNumber.calls (k : Nat) (A0 : Option Addr) (c0 : Nat) (l0 : List Int) (a1 : Int) (r : Bool) (w : World) (hr0 : Kd.C (Kd.int .u64) w A0 l0.length l0) (hc0 : l0.length ≤ c0) (h : spec_hasNumber.f k l0 a1 = some r) :
    Calls Try.prog 19 #[.slice A0 l0.length c0, .int .u64 a1] w fun e w' => e = .returned (.bool r) ∧ Drawn0 w w' := by
  have HR0 := Aside0.mk hr0
  have HC0 := Aside0.mk hc0
  clear hr0 hc0
  have H : (spec_hasNumber.l0 k l0 a1 0) = some r := h
  clear h
  have H' := Aside0.mk H
  clear H
  go_enter Try.func19, Try.ntmps19
  go_wp2
  go_loopg [5] k (fun kq v5 w' => ∃ (x5_1 : Int), v5 = .int .i64 x5_1 ∧ Aside0 (spec_hasNumber.l0 kq l0 a1 x5_1 = some r) ∧ Aside0 (kq ≤ k) ∧ Drawn0 w w')
  case atStart => exact ⟨(0), (by first | rfl | (simp; done) | (simp [*]; done)), H', ⟨Nat.le_refl _⟩, by repeat (first | exact Drawn0.refl _ | apply Drawn0.step)⟩
  case round =>
    clear H'
    try clear c1
    try clear p2
    obtain ⟨x5_1, rfl, HA, HK1, ⟨m1, rfl⟩⟩ := hrel
    cases gk with
    | zero => exact absurd HA.out (by simp [spec_hasNumber.l0])
    | succ k1 =>
      have H := HA.out
      clear HA
      simp only [spec_hasNumber.l0] at H
      by_cases c3 : x5_1 < (l0.length : Int)
      · rw [if_pos c3] at H
        have c3b0 : decide (x5_1 < (l0.length : Int)) = true := decide_eq_true c3
        clear c3
        by_cases c4 : 0 ≤ x5_1
        · rw [if_pos c4] at H
          have c4b0 : decide (0 ≤ x5_1) = true := decide_eq_true c4
          clear c4
          by_cases c5 : (rd l0 x5_1) = a1
          · rw [if_pos c5] at H
            have c5b0 : ((rd l0 x5_1) == a1) = true := beq_iff_eq.mpr c5
            have c5b1 : ((rd l0 x5_1) != a1) = false := bne_eq_false_iff_eq.mpr c5
            clear c5
            obtain rfl := Option.some.inj H
            have p101 : 0 ≤ (x5_1 : Int) := of_decide_eq_true (by first | (with_reducible assumption) | assumption)
            have q101 : x5_1 < (l0.length : Int) := of_decide_eq_true (by first | (with_reducible assumption) | assumption)
            obtain ⟨ad101, e101, hx101_0⟩ := Kd.at_int HR0.out x5_1 p101 q101
            cases e101
            replace p101 := eq_true p101
            replace q101 := eq_true q101
            go_wp2
            go_ret
            exact ⟨by first | rfl | (simp; done) | (simp [*]; done), by repeat (first | exact Drawn0.refl _ | apply Drawn0.step)⟩
          · rw [if_neg c5] at H
            have c5b0 : ((rd l0 x5_1) == a1) = false := beq_eq_false_iff_ne.mpr c5
            have c5b1 : ((rd l0 x5_1) != a1) = true := bne_iff_ne.mpr c5
            have H' := Aside0.mk H
            clear H
            have p101 : 0 ≤ (x5_1 : Int) := of_decide_eq_true (by first | (with_reducible assumption) | assumption)
            have q101 : x5_1 < (l0.length : Int) := of_decide_eq_true (by first | (with_reducible assumption) | assumption)
            obtain ⟨ad101, e101, hx101_0⟩ := Kd.at_int HR0.out x5_1 p101 q101
            cases e101
            replace p101 := eq_true p101
            replace q101 := eq_true q101
            go_wp2
            go_roundg k1
            case measure => have := HK1.out; omega
            case rel => exact ⟨(wrap64 (x5_1 + 1)), (by first | rfl | (simp; done) | (simp [*]; done)), H', ⟨by have := HK1.out; omega⟩, by repeat (first | exact Drawn0.refl _ | apply Drawn0.step)⟩
        · rw [if_neg c4] at H
          exact absurd H (by simp)
      · rw [if_neg c3] at H
        have c3b0 : decide (x5_1 < (l0.length : Int)) = false := decide_eq_false c3
        clear c3
        obtain rfl := Option.some.inj H
        go_wp2
        go_ret
        exact ⟨by first | rfl | (simp; done) | (simp [*]; done), by repeat (first | exact Drawn0.refl _ | apply Drawn0.step)⟩

/-! ### spec_Replay: function 13 -/
def spec_Replay.l0 : Nat → Int → Int → List Int → List Bool → List Int → Int → List Bool → Int → Option (List Bool)
  | 0, _, _, _, _, _, _, _, _ => none
  | k + 1, x0, x1, x2, x3, x9, x10, x11, x12 => if x12 < (x2.length : Int) then (if 0 ≤ x12 then (if (rd x2 x12) ≤ x1 then (if (rd x2 x12) > x10 then ((spec_hasNumber.f k x9 (rd x2 x12)).bind fun t103 => (if x11.length < 140737488355328 then ((some (x11 ++ [!t103] : List Bool)).bind fun y104 => (if t103 = true then (spec_Replay.l0 k x0 x1 x2 x3 x9 x10 y104 (wrap64 (x12 + 1))) else (if x12 < (x3.length : Int) then (if rdOf false x3 x12 = true then (if x9.length < 17592186044416 then (spec_Replay.l0 k x0 x1 x2 x3 (x9 ++ [rd x2 x12]) (mx x10 (rd x2 x12)) y104 (wrap64 (x12 + 1))) else (none)) else (spec_Replay.l0 k x0 x1 x2 x3 x9 x10 y104 (wrap64 (x12 + 1)))) else (spec_Replay.l0 k x0 x1 x2 x3 x9 x10 y104 (wrap64 (x12 + 1)))))) else (none))) else (if (IntKind.u64.wrap (x10 - (rd x2 x12))) < (IntKind.u64.wrap (x0)) then ((spec_hasNumber.f k x9 (rd x2 x12)).bind fun t111 => (if x11.length < 140737488355328 then ((some (x11 ++ [!t111] : List Bool)).bind fun y112 => (if t111 = true then (spec_Replay.l0 k x0 x1 x2 x3 x9 x10 y112 (wrap64 (x12 + 1))) else (if x12 < (x3.length : Int) then (if rdOf false x3 x12 = true then (if x9.length < 17592186044416 then (spec_Replay.l0 k x0 x1 x2 x3 (x9 ++ [rd x2 x12]) (mx x10 (rd x2 x12)) y112 (wrap64 (x12 + 1))) else (none)) else (spec_Replay.l0 k x0 x1 x2 x3 x9 x10 y112 (wrap64 (x12 + 1)))) else (spec_Replay.l0 k x0 x1 x2 x3 x9 x10 y112 (wrap64 (x12 + 1)))))) else (none))) else (if x11.length < 140737488355328 then (spec_Replay.l0 k x0 x1 x2 x3 x9 x10 (x11 ++ [false]) (wrap64 (x12 + 1))) else (none)))) else (if x11.length < 140737488355328 then (spec_Replay.l0 k x0 x1 x2 x3 x9 x10 (x11 ++ [false]) (wrap64 (x12 + 1))) else (none))) else (none)) else (some x11)
def spec_Replay.f (k : Nat) (a0 : Int) (a1 : Int) (l2 : List Int) (l3 : List Bool) : Option (List Bool) := spec_Replay.l0 k a0 a1 l2 l3 ([] : List Int) 0 ([] : List Bool) 0
theorem spec_Replay.mono_l : ∀ k, (∀ y0 y1 y2 y3 y4 y5 y6 y7, LeO (spec_Replay.l0 k y0 y1 y2 y3 y4 y5 y6 y7) (spec_Replay.l0 (k + 1) y0 y1 y2 y3 y4 y5 y6 y7))
  | 0 => fun _ _ _ _ _ _ _ _ r h => by simp [spec_Replay.l0] at h
  | k + 1 => by
    have ih0 := spec_Replay.mono_l k
    · intro y0 y1 y2 y3 y4 y5 y6 y7
      unfold spec_Replay.l0
      repeat' first
      | (with_reducible exact ih0 _ _ _ _ _ _ _ _)
      | (with_reducible exact spec_hasNumber.mono _ _ _)
      | (with_reducible exact LeO.refl _)
      | (with_reducible exact LeO.none _)
      | (with_reducible refine LeO.ite ?_ ?_)
      | (with_reducible refine LeO.bind ?_ (fun _ => ?_))
      | exact ih0 _ _ _ _ _ _ _ _
      | exact spec_hasNumber.mono _ _ _
      | exact LeO.none _
      | refine LeO.ite ?_ ?_
      | refine LeO.bind ?_ (fun _ => ?_)
theorem spec_Replay.mono : ∀ a0 a1 a2 a3 k, LeO (spec_Replay.f k a0 a1 a2 a3) (spec_Replay.f (k + 1) a0 a1 a2 a3) := by
  intro a0 a1 a2 a3 k
  have ih0 := spec_Replay.mono_l k
  unfold spec_Replay.f
  repeat' first
      | (with_reducible exact ih0 _ _ _ _ _ _ _ _)
      | (with_reducible exact spec_hasNumber.mono _ _ _)
      | (with_reducible exact LeO.refl _)
      | (with_reducible exact LeO.none _)
      | (with_reducible refine LeO.ite ?_ ?_)
      | (with_reducible refine LeO.bind ?_ (fun _ => ?_))
      | exact ih0 _ _ _ _ _ _ _ _
      | exact spec_hasNumber.mono _ _ _
      | exact LeO.none _
      | refine LeO.ite ?_ ?_
      | refine LeO.bind ?_ (fun _ => ?_)
set_option maxHeartbeats 8000000 in
set_option maxRecDepth 100000 in
theorem spec_Replay.calls (k : Nat) (a0 : Int) (a1 : Int) (A2 : Option Addr) (c2 : Nat) (l2 : List Int) (A3 : Option Addr) (c3 : Nat) (l3 : List Bool) (r : List Bool) (w : World) (hr2 : Kd.C (Kd.int .u64) w A2 l2.length l2) (hc2 : l2.length ≤ c2) (hr3 : Kd.C Kd.bool w A3 l3.length l3) (hc3 : l3.length ≤ c3) (h : spec_Replay.f k a0 a1 l2 l3 = some r) :
    Calls Try.prog 13 #[.int .i64 a0, .int .u64 a1, .slice A2 l2.length c2, .slice A3 l3.length c3] w fun e w' => ∃ v0_ : Value, e = .returned (v0_) ∧ Kd.R Kd.bool 4 w' w.heap.size (fun _ => True) v0_ r ∧ Below w.heap.size w w' := by
  have HR2 := Aside0.mk hr2
  have HC2 := Aside0.mk hc2
  clear hr2 hc2
  have HR3 := Aside0.mk hr3
  have HC3 := Aside0.mk hc3
  clear hr3 hc3
  have HB := Aside0.mk (Below.refl w.heap.size w)
  have H : (spec_Replay.l0 k a0 a1 l2 l3 ([] : List Int) 0 ([] : List Bool) 0) = some r := h
  clear h
  have H' := Aside0.mk H
  clear H
  go_enter Try.func13, Try.ntmps13
  go_wp2
  go_loopg [9, 10, 11, 12] k (fun kq v9 v10 v11 v12 w' => ∃ (x9_1 : List Int) (x10_1 : Int) (x11_1 : List Bool) (x12_1 : Int), v10 = .int .u64 x10_1 ∧ v12 = .int .i64 x12_1 ∧ Aside0 (spec_Replay.l0 kq a0 a1 l2 l3 x9_1 x10_1 x11_1 x12_1 = some r) ∧ Aside0 (kq ≤ k) ∧ Aside0 (Kd.R (Kd.int .u64) 26 w' w.heap.size (fun _ => True) v9 x9_1) ∧ Aside0 (Kd.R Kd.bool 4 w' w.heap.size (fun _ => True) v11 x11_1) ∧ Aside0 (Below w.heap.size w w'))
  case atStart => exact ⟨(([] : List Int)), (0), (([] : List Bool)), (0), (by first | rfl | (simp; done) | (simp [*]; done)), (by first | rfl | (simp; done) | (simp [*]; done)), H', ⟨Nat.le_refl _⟩, ⟨by first | exact Kd.R_nil _ _ _ _ _ | exact Kd.N_nil _ _ _ _ _ | exact Kd.V_nil _ _ _ _ _ | exact Kd.Q_nil _ _ _ _ _ | exact Kd.S_nil _ _ _ _ _⟩, ⟨by first | exact Kd.R_nil _ _ _ _ _ | exact Kd.N_nil _ _ _ _ _ | exact Kd.V_nil _ _ _ _ _ | exact Kd.Q_nil _ _ _ _ _ | exact Kd.S_nil _ _ _ _ _⟩, ⟨by repeat (first | (with_reducible first | exact HB.out | apply below_alloc | apply pw_below_drewN | apply below_drew1) | exact HB.out)⟩⟩
  case round =>
    clear H'
    try clear c1
    try clear c2
    try clear p2
    try clear c3
    obtain ⟨x9_1, x10_1, x11_1, x12_1, rfl, rfl, HA, HK1, HO_9, HO_11, HB⟩ := hrel
    cases gk with
    | zero => exact absurd HA.out (by simp [spec_Replay.l0])
    | succ k1 =>
      have H := HA.out
      clear HA
      simp only [spec_Replay.l0] at H
      by_cases c5 : x12_1 < (l2.length : Int)
      · rw [if_pos c5] at H
        have c5b0 : decide (x12_1 < (l2.length : Int)) = true := decide_eq_true c5
        clear c5
        by_cases c6 : 0 ≤ x12_1
        · rw [if_pos c6] at H
          have c6b0 : decide (0 ≤ x12_1) = true := decide_eq_true c6
          clear c6
          by_cases c7 : (rd l2 x12_1) ≤ a1
          · rw [if_pos c7] at H
            have c7b0 : decide ((rd l2 x12_1) ≤ a1) = true := decide_eq_true c7
            clear c7
            by_cases c8 : (rd l2 x12_1) > x10_1
            · rw [if_pos c8] at H
              have c8b0 : decide (x10_1 < (rd l2 x12_1)) = true := decide_eq_true c8
              clear c8
              replace H := Option.bind_eq_some_iff.mp H
              obtain ⟨t103, A90, H⟩ := H
              replace H : (if x11_1.length < 140737488355328 then ((some (x11_1 ++ [!t103] : List Bool)).bind fun y104 => (if t103 = true then (spec_Replay.l0 k1 a0 a1 l2 l3 x9_1 x10_1 y104 (wrap64 (x12_1 + 1))) else (if x12_1 < (l3.length : Int) then (if rdOf false l3 x12_1 = true then (if x9_1.length < 17592186044416 then (spec_Replay.l0 k1 a0 a1 l2 l3 (x9_1 ++ [rd l2 x12_1]) (mx x10_1 (rd l2 x12_1)) y104 (wrap64 (x12_1 + 1))) else (none)) else (spec_Replay.l0 k1 a0 a1 l2 l3 x9_1 x10_1 y104 (wrap64 (x12_1 + 1)))) else (spec_Replay.l0 k1 a0 a1 l2 l3 x9_1 x10_1 y104 (wrap64 (x12_1 + 1)))))) else (none)) = some r := H
              have A9 := Aside0.mk A90
              clear A90
              by_cases c10 : x11_1.length < 140737488355328
              · rw [if_pos c10] at H
                have LMc10 := Aside0.mk c10
                clear c10
                obtain ⟨y104, hy104⟩ : ∃ y_ : List Bool, y_ = (x11_1 ++ [!t103]) := ⟨_, rfl⟩
                replace H : (if t103 = true then (spec_Replay.l0 k1 a0 a1 l2 l3 x9_1 x10_1 y104 (wrap64 (x12_1 + 1))) else (if x12_1 < (l3.length : Int) then (if rdOf false l3 x12_1 = true then (if x9_1.length < 17592186044416 then (spec_Replay.l0 k1 a0 a1 l2 l3 (x9_1 ++ [rd l2 x12_1]) (mx x10_1 (rd l2 x12_1)) y104 (wrap64 (x12_1 + 1))) else (none)) else (spec_Replay.l0 k1 a0 a1 l2 l3 x9_1 x10_1 y104 (wrap64 (x12_1 + 1)))) else (spec_Replay.l0 k1 a0 a1 l2 l3 x9_1 x10_1 y104 (wrap64 (x12_1 + 1))))) = some r := by first | (rw [hy104]; with_reducible exact H) | (have H2_ := (Option.bind_some _ _).symm.trans H; rw [hy104]; with_reducible exact H2_) | (have H2_ := (Option.bind_some _ _).symm.trans H; with_reducible exact H2_) | with_reducible exact H | (rw [hy104]; exact H) | exact H
                have Ny104 := Aside0.mk hy104
                clear hy104
                by_cases c11 : t103 = true
                · subst c11
                  have H1 : (spec_Replay.l0 k1 a0 a1 l2 l3 x9_1 x10_1 y104 (wrap64 (x12_1 + 1))) = some r := by rw [if_pos rfl] at H; exact H
                  clear H
                  have H := H1
                  clear H1
                  have H' := Aside0.mk H
                  clear H
                  have p102 : 0 ≤ (x12_1 : Int) := of_decide_eq_true (by first | (with_reducible assumption) | assumption)
                  have q102 : x12_1 < (l2.length : Int) := of_decide_eq_true (by first | (with_reducible assumption) | assumption)
                  obtain ⟨ad102, e102, hx102_0⟩ := Kd.at_int HR2.out x12_1 p102 q102
                  cases e102
                  replace hx102_0 := (HB.out.cell (World.block_lt_of_cell? w _ hx102_0)).trans hx102_0
                  replace p102 := eq_true p102
                  replace q102 := eq_true q102
                  obtain ⟨Ao12, co12, eo12⟩ := Kd.R_slice HO_9.out
                  subst eo12
                  go_wp2_with (first | (go_at_call 19; (with_reducible refine (spec_hasNumber.calls k1 _ _ x9_1 (rd l2 x12_1) true _ ?side1 ?side2 A9.out).mono ?_); (case side1 => repeat (first | exact (Kd.R_reads' HO_9.out).2.2 | (with_reducible refine Kd.C_alloc ?_ _) | (with_reducible refine Kd.C_drewN ?_ _) | (with_reducible refine Kd.C_drew ?_))); (case side2 => exact (Kd.R_reads' HO_9.out).2.1); rintro e w' ⟨rfl, ⟨nd, rfl⟩⟩) | ((with_reducible refine gate_builtin (b := .append) (xs := #[.tmp 47, .tmp 49]) rfl ?_); (try (refine gate_guard (by rfl) ?_; dsimp only)); at_builtin; refine Kd.R_append Kd.bool (w0 := w) w.heap.size rfl (.tmp 47) (.tmp 49) 28 4 (.bool false) 1 rfl Try.underlying28 info4 rfl (by decide) (by omega) u11 x11_1 (!true) [.bool (!true)] (fun _ => True) (fun _ => False) rfl rfl ?aP (fun _ hk => hk.elim) ?aF ?aO ?aB ?aS ?aL ?_; (case aP => exact rfl); (case aB => exact (by repeat (first | (with_reducible first | exact HB.out | apply below_alloc | apply pw_below_drewN | apply below_drew1) | exact HB.out))); (case aF => exact (fun _ _ => trivial)); (case aO => exact (by (with_reducible repeat (first | apply Kd.R_alloc | apply Kd.R_drewN | apply Kd.R_drew)); exact HO_11.out)); (case aS => exact (below_size (by repeat (first | (with_reducible first | exact HB.out | apply below_alloc | apply pw_below_drewN | apply below_drew1) | exact HB.out)))); (case aL => have := LMc10.out; omega); intro v105 w13 ho hb hg hat; rw [← Ny104.out] at ho; have n0_ := Aside0.mk (Kd.R_over' (by (with_reducible repeat (first | apply Kd.R_alloc | apply Kd.R_drewN | apply Kd.R_drew)); exact HO_9.out) (Kd.R_typed (by (with_reducible repeat (first | apply Kd.R_alloc | apply Kd.R_drewN | apply Kd.R_drew)); exact HO_11.out)) (by decide) hg); have n1_ := Aside0.mk (hb); have n2_ := Aside0.mk (ho); clear HO_9; clear HB; clear HO_11; have HO_9 := n0_; have HB := n1_; have HO106 := n2_; clear n0_ n1_ n2_; clear ho hb hg hat))
                  go_roundg k1
                  case measure => have := HK1.out; omega
                  case rel => exact ⟨(x9_1), (x10_1), (y104), (wrap64 (x12_1 + 1)), (by first | rfl | (simp; done) | (simp [*]; done)), (by first | rfl | (simp; done) | (simp [*]; done)), H', ⟨by have := HK1.out; omega⟩, ⟨by (with_reducible repeat (first | apply Kd.R_alloc | apply Kd.R_drewN | apply Kd.R_drew)); exact HO_9.out⟩, ⟨by (with_reducible repeat (first | apply Kd.R_alloc | apply Kd.R_drewN | apply Kd.R_drew)); exact HO106.out⟩, ⟨by repeat (first | (with_reducible first | exact HB.out | apply below_alloc | apply pw_below_drewN | apply below_drew1) | exact HB.out)⟩⟩
                · replace c11 := Bool.eq_false_iff.mpr c11
                  subst c11
                  have H1 : (if x12_1 < (l3.length : Int) then (if rdOf false l3 x12_1 = true then (if x9_1.length < 17592186044416 then (spec_Replay.l0 k1 a0 a1 l2 l3 (x9_1 ++ [rd l2 x12_1]) (mx x10_1 (rd l2 x12_1)) y104 (wrap64 (x12_1 + 1))) else (none)) else (spec_Replay.l0 k1 a0 a1 l2 l3 x9_1 x10_1 y104 (wrap64 (x12_1 + 1)))) else (spec_Replay.l0 k1 a0 a1 l2 l3 x9_1 x10_1 y104 (wrap64 (x12_1 + 1)))) = some r := by rw [if_neg (show ¬ (false = true) by decide)] at H; exact H
                  clear H
                  have H := H1
                  clear H1
                  by_cases c14 : x12_1 < (l3.length : Int)
                  · rw [if_pos c14] at H
                    have c14b0 : decide (x12_1 < (l3.length : Int)) = true := decide_eq_true c14
                    clear c14
                    obtain ⟨bq15, hbq15⟩ : ∃ b_ : Bool, b_ = (rdOf false l3 x12_1) := ⟨_, rfl⟩
                    replace H : (if bq15 = true then (if x9_1.length < 17592186044416 then (spec_Replay.l0 k1 a0 a1 l2 l3 (x9_1 ++ [rd l2 x12_1]) (mx x10_1 (rd l2 x12_1)) y104 (wrap64 (x12_1 + 1))) else (none)) else (spec_Replay.l0 k1 a0 a1 l2 l3 x9_1 x10_1 y104 (wrap64 (x12_1 + 1)))) = some r := by rw [← hbq15] at H; exact H
                    have Nbq15 := Aside0.mk hbq15
                    clear hbq15
                    by_cases c16 : bq15 = true
                    · subst c16
                      have H1 : (if x9_1.length < 17592186044416 then (spec_Replay.l0 k1 a0 a1 l2 l3 (x9_1 ++ [rd l2 x12_1]) (mx x10_1 (rd l2 x12_1)) y104 (wrap64 (x12_1 + 1))) else (none)) = some r := by rw [if_pos rfl] at H; exact H
                      clear H
                      have H := H1
                      clear H1
                      by_cases c17 : x9_1.length < 17592186044416
                      · rw [if_pos c17] at H
                        have LMc17 := Aside0.mk c17
                        clear c17
                        obtain ⟨y108, hy108⟩ : ∃ y_ : List Int, y_ = (x9_1 ++ [rd l2 x12_1]) := ⟨_, rfl⟩
                        replace H : (spec_Replay.l0 k1 a0 a1 l2 l3 y108 (mx x10_1 (rd l2 x12_1)) y104 (wrap64 (x12_1 + 1))) = some r := by first | (rw [hy108]; with_reducible exact H) | (have H2_ := (Option.bind_some _ _).symm.trans H; rw [hy108]; with_reducible exact H2_) | (have H2_ := (Option.bind_some _ _).symm.trans H; with_reducible exact H2_) | with_reducible exact H | (rw [hy108]; exact H) | exact H
                        have Ny108 := Aside0.mk hy108
                        clear hy108
                        obtain ⟨ji18, hji18⟩ : ∃ j_ : Int, (mx x10_1 (rd l2 x12_1)) = j_ := ⟨_, rfl⟩
                        replace H : (spec_Replay.l0 k1 a0 a1 l2 l3 y108 ji18 y104 (wrap64 (x12_1 + 1))) = some r := by first | (rw [hji18] at H; exact H) | (simp only [hji18] at H ⊢; exact H)
                        (try rw [hji18] at A9)
                        have hji18_ : (if x10_1 < (rd l2 x12_1) then (rd l2 x12_1) else x10_1) = ji18 := hji18
                        have H' := Aside0.mk H
                        clear H
                        have p102 : 0 ≤ (x12_1 : Int) := of_decide_eq_true (by first | (with_reducible assumption) | assumption)
                        have q102 : x12_1 < (l2.length : Int) := of_decide_eq_true (by first | (with_reducible assumption) | assumption)
                        obtain ⟨ad102, e102, hx102_0⟩ := Kd.at_int HR2.out x12_1 p102 q102
                        cases e102
                        replace hx102_0 := (HB.out.cell (World.block_lt_of_cell? w _ hx102_0)).trans hx102_0
                        replace p102 := eq_true p102
                        replace q102 := eq_true q102
                        obtain ⟨Ao19, co19, eo19⟩ := Kd.R_slice HO_9.out
                        subst eo19
                        go_wp2_with (first | (go_at_call 19; (with_reducible refine (spec_hasNumber.calls k1 _ _ x9_1 (rd l2 x12_1) false _ ?side1 ?side2 A9.out).mono ?_); (case side1 => repeat (first | exact (Kd.R_reads' HO_9.out).2.2 | (with_reducible refine Kd.C_alloc ?_ _) | (with_reducible refine Kd.C_drewN ?_ _) | (with_reducible refine Kd.C_drew ?_))); (case side2 => exact (Kd.R_reads' HO_9.out).2.1); rintro e w' ⟨rfl, ⟨nd, rfl⟩⟩) | ((with_reducible refine gate_builtin (b := .append) (xs := #[.tmp 47, .tmp 49]) rfl ?_); (try (refine gate_guard (by rfl) ?_; dsimp only)); at_builtin; refine Kd.R_append Kd.bool (w0 := w) w.heap.size rfl (.tmp 47) (.tmp 49) 28 4 (.bool false) 1 rfl Try.underlying28 info4 rfl (by decide) (by omega) u11 x11_1 (!false) [.bool (!false)] (fun _ => True) (fun _ => False) rfl rfl ?aP (fun _ hk => hk.elim) ?aF ?aO ?aB ?aS ?aL ?_; (case aP => exact rfl); (case aB => exact (by repeat (first | (with_reducible first | exact HB.out | apply below_alloc | apply pw_below_drewN | apply below_drew1) | exact HB.out))); (case aF => exact (fun _ _ => trivial)); (case aO => exact (by (with_reducible repeat (first | apply Kd.R_alloc | apply Kd.R_drewN | apply Kd.R_drew)); exact HO_11.out)); (case aS => exact (below_size (by repeat (first | (with_reducible first | exact HB.out | apply below_alloc | apply pw_below_drewN | apply below_drew1) | exact HB.out)))); (case aL => have := LMc10.out; omega); intro v105 w20 ho hb hg hat; rw [← Ny104.out] at ho; have n0_ := Aside0.mk (Kd.R_over' (by (with_reducible repeat (first | apply Kd.R_alloc | apply Kd.R_drewN | apply Kd.R_drew)); exact HO_9.out) (Kd.R_typed (by (with_reducible repeat (first | apply Kd.R_alloc | apply Kd.R_drewN | apply Kd.R_drew)); exact HO_11.out)) (by decide) hg); have n1_ := Aside0.mk (hb); have n2_ := Aside0.mk (ho); clear HO_9; clear HB; clear HO_11; have HO_9 := n0_; have HB := n1_; have HO106 := n2_; clear n0_ n1_ n2_; clear ho hb hg hat; have p107 : 0 ≤ (x12_1 : Int) := of_decide_eq_true (by first | (with_reducible assumption) | assumption); have q107 : x12_1 < (l3.length : Int) := of_decide_eq_true (by first | (with_reducible assumption) | assumption); obtain ⟨ad107, e107, hx107_0⟩ := Kd.at_bool HR3.out x12_1 p107 q107; (try rw [← Nbq15.out] at hx107_0); cases e107; replace hx107_0 := (HB.out.cell (World.block_lt_of_cell? w _ hx107_0)).trans hx107_0; replace p107 := eq_true p107; replace q107 := eq_true q107) | ((with_reducible refine gate_builtin (b := .append) (xs := #[.tmp 64, .tmp 66]) rfl ?_); (try (refine gate_guard (by rfl) ?_; dsimp only)); at_builtin; refine Kd.R_append (Kd.int .u64) (w0 := w) w.heap.size rfl (.tmp 64) (.tmp 66) 27 26 (.int .u64 0) 8 rfl Try.underlying27 info26 rfl (by decide) (by omega) (.slice Ao19 x9_1.length co19) x9_1 (rd l2 x12_1) [.int .u64 (rd l2 x12_1)] (fun _ => True) (fun _ => False) rfl rfl ?aP (fun _ hk => hk.elim) ?aF ?aO ?aB ?aS ?aL ?_; (case aP => exact rfl); (case aB => exact (by repeat (first | (with_reducible first | exact HB.out | apply below_alloc | apply pw_below_drewN | apply below_drew1) | exact HB.out))); (case aF => exact (fun _ _ => trivial)); (case aO => exact (by (with_reducible repeat (first | apply Kd.R_alloc | apply Kd.R_drewN | apply Kd.R_drew)); exact HO_9.out)); (case aS => exact (below_size (by repeat (first | (with_reducible first | exact HB.out | apply below_alloc | apply pw_below_drewN | apply below_drew1) | exact HB.out)))); (case aL => have := LMc17.out; omega); intro v109 w21 ho hb hg hat; rw [← Ny108.out] at ho; have n0_ := Aside0.mk (Kd.R_over' (by (with_reducible repeat (first | apply Kd.R_alloc | apply Kd.R_drewN | apply Kd.R_drew)); exact HO106.out) (Kd.R_typed (by (with_reducible repeat (first | apply Kd.R_alloc | apply Kd.R_drewN | apply Kd.R_drew)); exact HO_9.out)) (by decide) hg); have n1_ := Aside0.mk (hb); have n2_ := Aside0.mk (ho); clear HO106; clear HB; clear HO_9; have HO106 := n0_; have HB := n1_; have HO110 := n2_; clear n0_ n1_ n2_; clear ho hb hg hat))
                        go_roundg k1
                        case measure => have := HK1.out; omega
                        case rel => exact ⟨(y108), (ji18), (y104), (wrap64 (x12_1 + 1)), (by first | rfl | (simp; done) | (simp only [← hji18] <;> (first | rfl | simp)) | (simp [*]; done)), (by first | rfl | (simp; done) | (simp [*]; done)), H', ⟨by have := HK1.out; omega⟩, ⟨by (with_reducible repeat (first | apply Kd.R_alloc | apply Kd.R_drewN | apply Kd.R_drew)); exact HO110.out⟩, ⟨by (with_reducible repeat (first | apply Kd.R_alloc | apply Kd.R_drewN | apply Kd.R_drew)); exact HO106.out⟩, ⟨by repeat (first | (with_reducible first | exact HB.out | apply below_alloc | apply pw_below_drewN | apply below_drew1) | exact HB.out)⟩⟩
                      · rw [if_neg c17] at H
                        exact absurd H (by simp)
                    · replace c16 := Bool.eq_false_iff.mpr c16
                      subst c16
                      have H1 : (spec_Replay.l0 k1 a0 a1 l2 l3 x9_1 x10_1 y104 (wrap64 (x12_1 + 1))) = some r := by rw [if_neg (show ¬ (false = true) by decide)] at H; exact H
                      clear H
                      have H := H1
                      clear H1
                      have H' := Aside0.mk H
                      clear H
                      have p102 : 0 ≤ (x12_1 : Int) := of_decide_eq_true (by first | (with_reducible assumption) | assumption)
                      have q102 : x12_1 < (l2.length : Int) := of_decide_eq_true (by first | (with_reducible assumption) | assumption)
                      obtain ⟨ad102, e102, hx102_0⟩ := Kd.at_int HR2.out x12_1 p102 q102
                      cases e102
                      replace hx102_0 := (HB.out.cell (World.block_lt_of_cell? w _ hx102_0)).trans hx102_0
                      replace p102 := eq_true p102
                      replace q102 := eq_true q102
                      obtain ⟨Ao22, co22, eo22⟩ := Kd.R_slice HO_9.out
                      subst eo22
                      go_wp2_with (first | (go_at_call 19; (with_reducible refine (spec_hasNumber.calls k1 _ _ x9_1 (rd l2 x12_1) false _ ?side1 ?side2 A9.out).mono ?_); (case side1 => repeat (first | exact (Kd.R_reads' HO_9.out).2.2 | (with_reducible refine Kd.C_alloc ?_ _) | (with_reducible refine Kd.C_drewN ?_ _) | (with_reducible refine Kd.C_drew ?_))); (case side2 => exact (Kd.R_reads' HO_9.out).2.1); rintro e w' ⟨rfl, ⟨nd, rfl⟩⟩) | ((with_reducible refine gate_builtin (b := .append) (xs := #[.tmp 47, .tmp 49]) rfl ?_); (try (refine gate_guard (by rfl) ?_; dsimp only)); at_builtin; refine Kd.R_append Kd.bool (w0 := w) w.heap.size rfl (.tmp 47) (.tmp 49) 28 4 (.bool false) 1 rfl Try.underlying28 info4 rfl (by decide) (by omega) u11 x11_1 (!false) [.bool (!false)] (fun _ => True) (fun _ => False) rfl rfl ?aP (fun _ hk => hk.elim) ?aF ?aO ?aB ?aS ?aL ?_; (case aP => exact rfl); (case aB => exact (by repeat (first | (with_reducible first | exact HB.out | apply below_alloc | apply pw_below_drewN | apply below_drew1) | exact HB.out))); (case aF => exact (fun _ _ => trivial)); (case aO => exact (by (with_reducible repeat (first | apply Kd.R_alloc | apply Kd.R_drewN | apply Kd.R_drew)); exact HO_11.out)); (case aS => exact (below_size (by repeat (first | (with_reducible first | exact HB.out | apply below_alloc | apply pw_below_drewN | apply below_drew1) | exact HB.out)))); (case aL => have := LMc10.out; omega); intro v105 w23 ho hb hg hat; rw [← Ny104.out] at ho; have n0_ := Aside0.mk (Kd.R_over' (by (with_reducible repeat (first | apply Kd.R_alloc | apply Kd.R_drewN | apply Kd.R_drew)); exact HO_9.out) (Kd.R_typed (by (with_reducible repeat (first | apply Kd.R_alloc | apply Kd.R_drewN | apply Kd.R_drew)); exact HO_11.out)) (by decide) hg); have n1_ := Aside0.mk (hb); have n2_ := Aside0.mk (ho); clear HO_9; clear HB; clear HO_11; have HO_9 := n0_; have HB := n1_; have HO106 := n2_; clear n0_ n1_ n2_; clear ho hb hg hat; have p107 : 0 ≤ (x12_1 : Int) := of_decide_eq_true (by first | (with_reducible assumption) | assumption); have q107 : x12_1 < (l3.length : Int) := of_decide_eq_true (by first | (with_reducible assumption) | assumption); obtain ⟨ad107, e107, hx107_0⟩ := Kd.at_bool HR3.out x12_1 p107 q107; (try rw [← Nbq15.out] at hx107_0); cases e107; replace hx107_0 := (HB.out.cell (World.block_lt_of_cell? w _ hx107_0)).trans hx107_0; replace p107 := eq_true p107; replace q107 := eq_true q107))
                      go_roundg k1
                      case measure => have := HK1.out; omega
                      case rel => exact ⟨(x9_1), (x10_1), (y104), (wrap64 (x12_1 + 1)), (by first | rfl | (simp; done) | (simp [*]; done)), (by first | rfl | (simp; done) | (simp [*]; done)), H', ⟨by have := HK1.out; omega⟩, ⟨by (with_reducible repeat (first | apply Kd.R_alloc | apply Kd.R_drewN | apply Kd.R_drew)); exact HO_9.out⟩, ⟨by (with_reducible repeat (first | apply Kd.R_alloc | apply Kd.R_drewN | apply Kd.R_drew)); exact HO106.out⟩, ⟨by repeat (first | (with_reducible first | exact HB.out | apply below_alloc | apply pw_below_drewN | apply below_drew1) | exact HB.out)⟩⟩
                  · rw [if_neg c14] at H
                    have c14b0 : decide (x12_1 < (l3.length : Int)) = false := decide_eq_false c14
                    clear c14
                    have H' := Aside0.mk H
                    clear H
                    have p102 : 0 ≤ (x12_1 : Int) := of_decide_eq_true (by first | (with_reducible assumption) | assumption)
                    have q102 : x12_1 < (l2.length : Int) := of_decide_eq_true (by first | (with_reducible assumption) | assumption)
                    obtain ⟨ad102, e102, hx102_0⟩ := Kd.at_int HR2.out x12_1 p102 q102
                    cases e102
                    replace hx102_0 := (HB.out.cell (World.block_lt_of_cell? w _ hx102_0)).trans hx102_0
                    replace p102 := eq_true p102
                    replace q102 := eq_true q102
                    obtain ⟨Ao24, co24, eo24⟩ := Kd.R_slice HO_9.out
                    subst eo24
                    go_wp2_with (first | (go_at_call 19; (with_reducible refine (spec_hasNumber.calls k1 _ _ x9_1 (rd l2 x12_1) false _ ?side1 ?side2 A9.out).mono ?_); (case side1 => repeat (first | exact (Kd.R_reads' HO_9.out).2.2 | (with_reducible refine Kd.C_alloc ?_ _) | (with_reducible refine Kd.C_drewN ?_ _) | (with_reducible refine Kd.C_drew ?_))); (case side2 => exact (Kd.R_reads' HO_9.out).2.1); rintro e w' ⟨rfl, ⟨nd, rfl⟩⟩) | ((with_reducible refine gate_builtin (b := .append) (xs := #[.tmp 47, .tmp 49]) rfl ?_); (try (refine gate_guard (by rfl) ?_; dsimp only)); at_builtin; refine Kd.R_append Kd.bool (w0 := w) w.heap.size rfl (.tmp 47) (.tmp 49) 28 4 (.bool false) 1 rfl Try.underlying28 info4 rfl (by decide) (by omega) u11 x11_1 (!false) [.bool (!false)] (fun _ => True) (fun _ => False) rfl rfl ?aP (fun _ hk => hk.elim) ?aF ?aO ?aB ?aS ?aL ?_; (case aP => exact rfl); (case aB => exact (by repeat (first | (with_reducible first | exact HB.out | apply below_alloc | apply pw_below_drewN | apply below_drew1) | exact HB.out))); (case aF => exact (fun _ _ => trivial)); (case aO => exact (by (with_reducible repeat (first | apply Kd.R_alloc | apply Kd.R_drewN | apply Kd.R_drew)); exact HO_11.out)); (case aS => exact (below_size (by repeat (first | (with_reducible first | exact HB.out | apply below_alloc | apply pw_below_drewN | apply below_drew1) | exact HB.out)))); (case aL => have := LMc10.out; omega); intro v105 w25 ho hb hg hat; rw [← Ny104.out] at ho; have n0_ := Aside0.mk (Kd.R_over' (by (with_reducible repeat (first | apply Kd.R_alloc | apply Kd.R_drewN | apply Kd.R_drew)); exact HO_9.out) (Kd.R_typed (by (with_reducible repeat (first | apply Kd.R_alloc | apply Kd.R_drewN | apply Kd.R_drew)); exact HO_11.out)) (by decide) hg); have n1_ := Aside0.mk (hb); have n2_ := Aside0.mk (ho); clear HO_9; clear HB; clear HO_11; have HO_9 := n0_; have HB := n1_; have HO106 := n2_; clear n0_ n1_ n2_; clear ho hb hg hat))
                    go_roundg k1
                    case measure => have := HK1.out; omega
                    case rel => exact ⟨(x9_1), (x10_1), (y104), (wrap64 (x12_1 + 1)), (by first | rfl | (simp; done) | (simp [*]; done)), (by first | rfl | (simp; done) | (simp [*]; done)), H', ⟨by have := HK1.out; omega⟩, ⟨by (with_reducible repeat (first | apply Kd.R_alloc | apply Kd.R_drewN | apply Kd.R_drew)); exact HO_9.out⟩, ⟨by (with_reducible repeat (first | apply Kd.R_alloc | apply Kd.R_drewN | apply Kd.R_drew)); exact HO106.out⟩, ⟨by repeat (first | (with_reducible first | exact HB.out | apply below_alloc | apply pw_below_drewN | apply below_drew1) | exact HB.out)⟩⟩
              · rw [if_neg c10] at H
                exact absurd H (by simp)
            · rw [if_neg c8] at H
              have c8b0 : decide (x10_1 < (rd l2 x12_1)) = false := decide_eq_false c8
              clear c8
              by_cases c26 : (IntKind.u64.wrap (x10_1 - (rd l2 x12_1))) < (IntKind.u64.wrap (a0))
              · rw [if_pos c26] at H
                have c26b0 : decide ((IntKind.u64.wrap (x10_1 - (rd l2 x12_1))) < (IntKind.u64.wrap (a0))) = true := decide_eq_true c26
                clear c26
                replace H := Option.bind_eq_some_iff.mp H
                obtain ⟨t111, A270, H⟩ := H
                replace H : (if x11_1.length < 140737488355328 then ((some (x11_1 ++ [!t111] : List Bool)).bind fun y112 => (if t111 = true then (spec_Replay.l0 k1 a0 a1 l2 l3 x9_1 x10_1 y112 (wrap64 (x12_1 + 1))) else (if x12_1 < (l3.length : Int) then (if rdOf false l3 x12_1 = true then (if x9_1.length < 17592186044416 then (spec_Replay.l0 k1 a0 a1 l2 l3 (x9_1 ++ [rd l2 x12_1]) (mx x10_1 (rd l2 x12_1)) y112 (wrap64 (x12_1 + 1))) else (none)) else (spec_Replay.l0 k1 a0 a1 l2 l3 x9_1 x10_1 y112 (wrap64 (x12_1 + 1)))) else (spec_Replay.l0 k1 a0 a1 l2 l3 x9_1 x10_1 y112 (wrap64 (x12_1 + 1)))))) else (none)) = some r := H
                have A27 := Aside0.mk A270
                clear A270
                by_cases c28 : x11_1.length < 140737488355328
                · rw [if_pos c28] at H
                  have LMc28 := Aside0.mk c28
                  clear c28
                  obtain ⟨y112, hy112⟩ : ∃ y_ : List Bool, y_ = (x11_1 ++ [!t111]) := ⟨_, rfl⟩
                  replace H : (if t111 = true then (spec_Replay.l0 k1 a0 a1 l2 l3 x9_1 x10_1 y112 (wrap64 (x12_1 + 1))) else (if x12_1 < (l3.length : Int) then (if rdOf false l3 x12_1 = true then (if x9_1.length < 17592186044416 then (spec_Replay.l0 k1 a0 a1 l2 l3 (x9_1 ++ [rd l2 x12_1]) (mx x10_1 (rd l2 x12_1)) y112 (wrap64 (x12_1 + 1))) else (none)) else (spec_Replay.l0 k1 a0 a1 l2 l3 x9_1 x10_1 y112 (wrap64 (x12_1 + 1)))) else (spec_Replay.l0 k1 a0 a1 l2 l3 x9_1 x10_1 y112 (wrap64 (x12_1 + 1))))) = some r := by first | (rw [hy112]; with_reducible exact H) | (have H2_ := (Option.bind_some _ _).symm.trans H; rw [hy112]; with_reducible exact H2_) | (have H2_ := (Option.bind_some _ _).symm.trans H; with_reducible exact H2_) | with_reducible exact H | (rw [hy112]; exact H) | exact H
                  have Ny112 := Aside0.mk hy112
                  clear hy112
                  by_cases c29 : t111 = true
                  · subst c29
                    have H1 : (spec_Replay.l0 k1 a0 a1 l2 l3 x9_1 x10_1 y112 (wrap64 (x12_1 + 1))) = some r := by rw [if_pos rfl] at H; exact H
                    clear H
                    have H := H1
                    clear H1
                    have H' := Aside0.mk H
                    clear H
                    have p102 : 0 ≤ (x12_1 : Int) := of_decide_eq_true (by first | (with_reducible assumption) | assumption)
                    have q102 : x12_1 < (l2.length : Int) := of_decide_eq_true (by first | (with_reducible assumption) | assumption)
                    obtain ⟨ad102, e102, hx102_0⟩ := Kd.at_int HR2.out x12_1 p102 q102
                    cases e102
                    replace hx102_0 := (HB.out.cell (World.block_lt_of_cell? w _ hx102_0)).trans hx102_0
                    replace p102 := eq_true p102
                    replace q102 := eq_true q102
                    obtain ⟨Ao30, co30, eo30⟩ := Kd.R_slice HO_9.out
                    subst eo30
                    go_wp2_with (first | (go_at_call 19; (with_reducible refine (spec_hasNumber.calls k1 _ _ x9_1 (rd l2 x12_1) true _ ?side1 ?side2 A27.out).mono ?_); (case side1 => repeat (first | exact (Kd.R_reads' HO_9.out).2.2 | (with_reducible refine Kd.C_alloc ?_ _) | (with_reducible refine Kd.C_drewN ?_ _) | (with_reducible refine Kd.C_drew ?_))); (case side2 => exact (Kd.R_reads' HO_9.out).2.1); rintro e w' ⟨rfl, ⟨nd, rfl⟩⟩) | ((with_reducible refine gate_builtin (b := .append) (xs := #[.tmp 47, .tmp 49]) rfl ?_); (try (refine gate_guard (by rfl) ?_; dsimp only)); at_builtin; refine Kd.R_append Kd.bool (w0 := w) w.heap.size rfl (.tmp 47) (.tmp 49) 28 4 (.bool false) 1 rfl Try.underlying28 info4 rfl (by decide) (by omega) u11 x11_1 (!true) [.bool (!true)] (fun _ => True) (fun _ => False) rfl rfl ?aP (fun _ hk => hk.elim) ?aF ?aO ?aB ?aS ?aL ?_; (case aP => exact rfl); (case aB => exact (by repeat (first | (with_reducible first | exact HB.out | apply below_alloc | apply pw_below_drewN | apply below_drew1) | exact HB.out))); (case aF => exact (fun _ _ => trivial)); (case aO => exact (by (with_reducible repeat (first | apply Kd.R_alloc | apply Kd.R_drewN | apply Kd.R_drew)); exact HO_11.out)); (case aS => exact (below_size (by repeat (first | (with_reducible first | exact HB.out | apply below_alloc | apply pw_below_drewN | apply below_drew1) | exact HB.out)))); (case aL => have := LMc28.out; omega); intro v113 w31 ho hb hg hat; rw [← Ny112.out] at ho; have n0_ := Aside0.mk (Kd.R_over' (by (with_reducible repeat (first | apply Kd.R_alloc | apply Kd.R_drewN | apply Kd.R_drew)); exact HO_9.out) (Kd.R_typed (by (with_reducible repeat (first | apply Kd.R_alloc | apply Kd.R_drewN | apply Kd.R_drew)); exact HO_11.out)) (by decide) hg); have n1_ := Aside0.mk (hb); have n2_ := Aside0.mk (ho); clear HO_9; clear HB; clear HO_11; have HO_9 := n0_; have HB := n1_; have HO114 := n2_; clear n0_ n1_ n2_; clear ho hb hg hat))
                    go_roundg k1
                    case measure => have := HK1.out; omega
                    case rel => exact ⟨(x9_1), (x10_1), (y112), (wrap64 (x12_1 + 1)), (by first | rfl | (simp; done) | (simp [*]; done)), (by first | rfl | (simp; done) | (simp [*]; done)), H', ⟨by have := HK1.out; omega⟩, ⟨by (with_reducible repeat (first | apply Kd.R_alloc | apply Kd.R_drewN | apply Kd.R_drew)); exact HO_9.out⟩, ⟨by (with_reducible repeat (first | apply Kd.R_alloc | apply Kd.R_drewN | apply Kd.R_drew)); exact HO114.out⟩, ⟨by repeat (first | (with_reducible first | exact HB.out | apply below_alloc | apply pw_below_drewN | apply below_drew1) | exact HB.out)⟩⟩
                  · replace c29 := Bool.eq_false_iff.mpr c29
                    subst c29
                    have H1 : (if x12_1 < (l3.length : Int) then (if rdOf false l3 x12_1 = true then (if x9_1.length < 17592186044416 then (spec_Replay.l0 k1 a0 a1 l2 l3 (x9_1 ++ [rd l2 x12_1]) (mx x10_1 (rd l2 x12_1)) y112 (wrap64 (x12_1 + 1))) else (none)) else (spec_Replay.l0 k1 a0 a1 l2 l3 x9_1 x10_1 y112 (wrap64 (x12_1 + 1)))) else (spec_Replay.l0 k1 a0 a1 l2 l3 x9_1 x10_1 y112 (wrap64 (x12_1 + 1)))) = some r := by rw [if_neg (show ¬ (false = true) by decide)] at H; exact H
                    clear H
                    have H := H1
                    clear H1
                    by_cases c32 : x12_1 < (l3.length : Int)
                    · rw [if_pos c32] at H
                      have c32b0 : decide (x12_1 < (l3.length : Int)) = true := decide_eq_true c32
                      clear c32
                      obtain ⟨bq33, hbq33⟩ : ∃ b_ : Bool, b_ = (rdOf false l3 x12_1) := ⟨_, rfl⟩
                      replace H : (if bq33 = true then (if x9_1.length < 17592186044416 then (spec_Replay.l0 k1 a0 a1 l2 l3 (x9_1 ++ [rd l2 x12_1]) (mx x10_1 (rd l2 x12_1)) y112 (wrap64 (x12_1 + 1))) else (none)) else (spec_Replay.l0 k1 a0 a1 l2 l3 x9_1 x10_1 y112 (wrap64 (x12_1 + 1)))) = some r := by rw [← hbq33] at H; exact H
                      have Nbq33 := Aside0.mk hbq33
                      clear hbq33
                      by_cases c34 : bq33 = true
                      · subst c34
                        have H1 : (if x9_1.length < 17592186044416 then (spec_Replay.l0 k1 a0 a1 l2 l3 (x9_1 ++ [rd l2 x12_1]) (mx x10_1 (rd l2 x12_1)) y112 (wrap64 (x12_1 + 1))) else (none)) = some r := by rw [if_pos rfl] at H; exact H
                        clear H
                        have H := H1
                        clear H1
                        by_cases c35 : x9_1.length < 17592186044416
                        · rw [if_pos c35] at H
                          have LMc35 := Aside0.mk c35
                          clear c35
                          obtain ⟨y116, hy116⟩ : ∃ y_ : List Int, y_ = (x9_1 ++ [rd l2 x12_1]) := ⟨_, rfl⟩
                          replace H : (spec_Replay.l0 k1 a0 a1 l2 l3 y116 (mx x10_1 (rd l2 x12_1)) y112 (wrap64 (x12_1 + 1))) = some r := by first | (rw [hy116]; with_reducible exact H) | (have H2_ := (Option.bind_some _ _).symm.trans H; rw [hy116]; with_reducible exact H2_) | (have H2_ := (Option.bind_some _ _).symm.trans H; with_reducible exact H2_) | with_reducible exact H | (rw [hy116]; exact H) | exact H
                          have Ny116 := Aside0.mk hy116
                          clear hy116
                          obtain ⟨ji36, hji36⟩ : ∃ j_ : Int, (mx x10_1 (rd l2 x12_1)) = j_ := ⟨_, rfl⟩
                          replace H : (spec_Replay.l0 k1 a0 a1 l2 l3 y116 ji36 y112 (wrap64 (x12_1 + 1))) = some r := by first | (rw [hji36] at H; exact H) | (simp only [hji36] at H ⊢; exact H)
                          (try rw [hji36] at A27)
                          have hji36_ : (if x10_1 < (rd l2 x12_1) then (rd l2 x12_1) else x10_1) = ji36 := hji36
                          have H' := Aside0.mk H
                          clear H
                          have p102 : 0 ≤ (x12_1 : Int) := of_decide_eq_true (by first | (with_reducible assumption) | assumption)
                          have q102 : x12_1 < (l2.length : Int) := of_decide_eq_true (by first | (with_reducible assumption) | assumption)
                          obtain ⟨ad102, e102, hx102_0⟩ := Kd.at_int HR2.out x12_1 p102 q102
                          cases e102
                          replace hx102_0 := (HB.out.cell (World.block_lt_of_cell? w _ hx102_0)).trans hx102_0
                          replace p102 := eq_true p102
                          replace q102 := eq_true q102
                          obtain ⟨Ao37, co37, eo37⟩ := Kd.R_slice HO_9.out
                          subst eo37
                          go_wp2_with (first | (go_at_call 19; (with_reducible refine (spec_hasNumber.calls k1 _ _ x9_1 (rd l2 x12_1) false _ ?side1 ?side2 A27.out).mono ?_); (case side1 => repeat (first | exact (Kd.R_reads' HO_9.out).2.2 | (with_reducible refine Kd.C_alloc ?_ _) | (with_reducible refine Kd.C_drewN ?_ _) | (with_reducible refine Kd.C_drew ?_))); (case side2 => exact (Kd.R_reads' HO_9.out).2.1); rintro e w' ⟨rfl, ⟨nd, rfl⟩⟩) | ((with_reducible refine gate_builtin (b := .append) (xs := #[.tmp 47, .tmp 49]) rfl ?_); (try (refine gate_guard (by rfl) ?_; dsimp only)); at_builtin; refine Kd.R_append Kd.bool (w0 := w) w.heap.size rfl (.tmp 47) (.tmp 49) 28 4 (.bool false) 1 rfl Try.underlying28 info4 rfl (by decide) (by omega) u11 x11_1 (!false) [.bool (!false)] (fun _ => True) (fun _ => False) rfl rfl ?aP (fun _ hk => hk.elim) ?aF ?aO ?aB ?aS ?aL ?_; (case aP => exact rfl); (case aB => exact (by repeat (first | (with_reducible first | exact HB.out | apply below_alloc | apply pw_below_drewN | apply below_drew1) | exact HB.out))); (case aF => exact (fun _ _ => trivial)); (case aO => exact (by (with_reducible repeat (first | apply Kd.R_alloc | apply Kd.R_drewN | apply Kd.R_drew)); exact HO_11.out)); (case aS => exact (below_size (by repeat (first | (with_reducible first | exact HB.out | apply below_alloc | apply pw_below_drewN | apply below_drew1) | exact HB.out)))); (case aL => have := LMc28.out; omega); intro v113 w38 ho hb hg hat; rw [← Ny112.out] at ho; have n0_ := Aside0.mk (Kd.R_over' (by (with_reducible repeat (first | apply Kd.R_alloc | apply Kd.R_drewN | apply Kd.R_drew)); exact HO_9.out) (Kd.R_typed (by (with_reducible repeat (first | apply Kd.R_alloc | apply Kd.R_drewN | apply Kd.R_drew)); exact HO_11.out)) (by decide) hg); have n1_ := Aside0.mk (hb); have n2_ := Aside0.mk (ho); clear HO_9; clear HB; clear HO_11; have HO_9 := n0_; have HB := n1_; have HO114 := n2_; clear n0_ n1_ n2_; clear ho hb hg hat; have p115 : 0 ≤ (x12_1 : Int) := of_decide_eq_true (by first | (with_reducible assumption) | assumption); have q115 : x12_1 < (l3.length : Int) := of_decide_eq_true (by first | (with_reducible assumption) | assumption); obtain ⟨ad115, e115, hx115_0⟩ := Kd.at_bool HR3.out x12_1 p115 q115; (try rw [← Nbq33.out] at hx115_0); cases e115; replace hx115_0 := (HB.out.cell (World.block_lt_of_cell? w _ hx115_0)).trans hx115_0; replace p115 := eq_true p115; replace q115 := eq_true q115) | ((with_reducible refine gate_builtin (b := .append) (xs := #[.tmp 64, .tmp 66]) rfl ?_); (try (refine gate_guard (by rfl) ?_; dsimp only)); at_builtin; refine Kd.R_append (Kd.int .u64) (w0 := w) w.heap.size rfl (.tmp 64) (.tmp 66) 27 26 (.int .u64 0) 8 rfl Try.underlying27 info26 rfl (by decide) (by omega) (.slice Ao37 x9_1.length co37) x9_1 (rd l2 x12_1) [.int .u64 (rd l2 x12_1)] (fun _ => True) (fun _ => False) rfl rfl ?aP (fun _ hk => hk.elim) ?aF ?aO ?aB ?aS ?aL ?_; (case aP => exact rfl); (case aB => exact (by repeat (first | (with_reducible first | exact HB.out | apply below_alloc | apply pw_below_drewN | apply below_drew1) | exact HB.out))); (case aF => exact (fun _ _ => trivial)); (case aO => exact (by (with_reducible repeat (first | apply Kd.R_alloc | apply Kd.R_drewN | apply Kd.R_drew)); exact HO_9.out)); (case aS => exact (below_size (by repeat (first | (with_reducible first | exact HB.out | apply below_alloc | apply pw_below_drewN | apply below_drew1) | exact HB.out)))); (case aL => have := LMc35.out; omega); intro v117 w39 ho hb hg hat; rw [← Ny116.out] at ho; have n0_ := Aside0.mk (Kd.R_over' (by (with_reducible repeat (first | apply Kd.R_alloc | apply Kd.R_drewN | apply Kd.R_drew)); exact HO114.out) (Kd.R_typed (by (with_reducible repeat (first | apply Kd.R_alloc | apply Kd.R_drewN | apply Kd.R_drew)); exact HO_9.out)) (by decide) hg); have n1_ := Aside0.mk (hb); have n2_ := Aside0.mk (ho); clear HO114; clear HB; clear HO_9; have HO114 := n0_; have HB := n1_; have HO118 := n2_; clear n0_ n1_ n2_; clear ho hb hg hat))
                          go_roundg k1
                          case measure => have := HK1.out; omega
                          case rel => exact ⟨(y116), (ji36), (y112), (wrap64 (x12_1 + 1)), (by first | rfl | (simp; done) | (simp only [← hji36] <;> (first | rfl | simp)) | (simp [*]; done)), (by first | rfl | (simp; done) | (simp [*]; done)), H', ⟨by have := HK1.out; omega⟩, ⟨by (with_reducible repeat (first | apply Kd.R_alloc | apply Kd.R_drewN | apply Kd.R_drew)); exact HO118.out⟩, ⟨by (with_reducible repeat (first | apply Kd.R_alloc | apply Kd.R_drewN | apply Kd.R_drew)); exact HO114.out⟩, ⟨by repeat (first | (with_reducible first | exact HB.out | apply below_alloc | apply pw_below_drewN | apply below_drew1) | exact HB.out)⟩⟩
                        · rw [if_neg c35] at H
                          exact absurd H (by simp)
                      · replace c34 := Bool.eq_false_iff.mpr c34
                        subst c34
                        have H1 : (spec_Replay.l0 k1 a0 a1 l2 l3 x9_1 x10_1 y112 (wrap64 (x12_1 + 1))) = some r := by rw [if_neg (show ¬ (false = true) by decide)] at H; exact H
                        clear H
                        have H := H1
                        clear H1
                        have H' := Aside0.mk H
                        clear H
                        have p102 : 0 ≤ (x12_1 : Int) := of_decide_eq_true (by first | (with_reducible assumption) | assumption)
                        have q102 : x12_1 < (l2.length : Int) := of_decide_eq_true (by first | (with_reducible assumption) | assumption)
                        obtain ⟨ad102, e102, hx102_0⟩ := Kd.at_int HR2.out x12_1 p102 q102
                        cases e102
                        replace hx102_0 := (HB.out.cell (World.block_lt_of_cell? w _ hx102_0)).trans hx102_0
                        replace p102 := eq_true p102
                        replace q102 := eq_true q102
                        obtain ⟨Ao40, co40, eo40⟩ := Kd.R_slice HO_9.out
                        subst eo40
                        go_wp2_with (first | (go_at_call 19; (with_reducible refine (spec_hasNumber.calls k1 _ _ x9_1 (rd l2 x12_1) false _ ?side1 ?side2 A27.out).mono ?_); (case side1 => repeat (first | exact (Kd.R_reads' HO_9.out).2.2 | (with_reducible refine Kd.C_alloc ?_ _) | (with_reducible refine Kd.C_drewN ?_ _) | (with_reducible refine Kd.C_drew ?_))); (case side2 => exact (Kd.R_reads' HO_9.out).2.1); rintro e w' ⟨rfl, ⟨nd, rfl⟩⟩) | ((with_reducible refine gate_builtin (b := .append) (xs := #[.tmp 47, .tmp 49]) rfl ?_); (try (refine gate_guard (by rfl) ?_; dsimp only)); at_builtin; refine Kd.R_append Kd.bool (w0 := w) w.heap.size rfl (.tmp 47) (.tmp 49) 28 4 (.bool false) 1 rfl Try.underlying28 info4 rfl (by decide) (by omega) u11 x11_1 (!false) [.bool (!false)] (fun _ => True) (fun _ => False) rfl rfl ?aP (fun _ hk => hk.elim) ?aF ?aO ?aB ?aS ?aL ?_; (case aP => exact rfl); (case aB => exact (by repeat (first | (with_reducible first | exact HB.out | apply below_alloc | apply pw_below_drewN | apply below_drew1) | exact HB.out))); (case aF => exact (fun _ _ => trivial)); (case aO => exact (by (with_reducible repeat (first | apply Kd.R_alloc | apply Kd.R_drewN | apply Kd.R_drew)); exact HO_11.out)); (case aS => exact (below_size (by repeat (first | (with_reducible first | exact HB.out | apply below_alloc | apply pw_below_drewN | apply below_drew1) | exact HB.out)))); (case aL => have := LMc28.out; omega); intro v113 w41 ho hb hg hat; rw [← Ny112.out] at ho; have n0_ := Aside0.mk (Kd.R_over' (by (with_reducible repeat (first | apply Kd.R_alloc | apply Kd.R_drewN | apply Kd.R_drew)); exact HO_9.out) (Kd.R_typed (by (with_reducible repeat (first | apply Kd.R_alloc | apply Kd.R_drewN | apply Kd.R_drew)); exact HO_11.out)) (by decide) hg); have n1_ := Aside0.mk (hb); have n2_ := Aside0.mk (ho); clear HO_9; clear HB; clear HO_11; have HO_9 := n0_; have HB := n1_; have HO114 := n2_; clear n0_ n1_ n2_; clear ho hb hg hat; have p115 : 0 ≤ (x12_1 : Int) := of_decide_eq_true (by first | (with_reducible assumption) | assumption); have q115 : x12_1 < (l3.length : Int) := of_decide_eq_true (by first | (with_reducible assumption) | assumption); obtain ⟨ad115, e115, hx115_0⟩ := Kd.at_bool HR3.out x12_1 p115 q115; (try rw [← Nbq33.out] at hx115_0); cases e115; replace hx115_0 := (HB.out.cell (World.block_lt_of_cell? w _ hx115_0)).trans hx115_0; replace p115 := eq_true p115; replace q115 := eq_true q115))
                        go_roundg k1
                        case measure => have := HK1.out; omega
                        case rel => exact ⟨(x9_1), (x10_1), (y112), (wrap64 (x12_1 + 1)), (by first | rfl | (simp; done) | (simp [*]; done)), (by first | rfl | (simp; done) | (simp [*]; done)), H', ⟨by have := HK1.out; omega⟩, ⟨by (with_reducible repeat (first | apply Kd.R_alloc | apply Kd.R_drewN | apply Kd.R_drew)); exact HO_9.out⟩, ⟨by (with_reducible repeat (first | apply Kd.R_alloc | apply Kd.R_drewN | apply Kd.R_drew)); exact HO114.out⟩, ⟨by repeat (first | (with_reducible first | exact HB.out | apply below_alloc | apply pw_below_drewN | apply below_drew1) | exact HB.out)⟩⟩
                    · rw [if_neg c32] at H
                      have c32b0 : decide (x12_1 < (l3.length : Int)) = false := decide_eq_false c32
                      clear c32
                      have H' := Aside0.mk H
                      clear H
                      have p102 : 0 ≤ (x12_1 : Int) := of_decide_eq_true (by first | (with_reducible assumption) | assumption)
                      have q102 : x12_1 < (l2.length : Int) := of_decide_eq_true (by first | (with_reducible assumption) | assumption)
                      obtain ⟨ad102, e102, hx102_0⟩ := Kd.at_int HR2.out x12_1 p102 q102
                      cases e102
                      replace hx102_0 := (HB.out.cell (World.block_lt_of_cell? w _ hx102_0)).trans hx102_0
                      replace p102 := eq_true p102
                      replace q102 := eq_true q102
                      obtain ⟨Ao42, co42, eo42⟩ := Kd.R_slice HO_9.out
                      subst eo42
                      go_wp2_with (first | (go_at_call 19; (with_reducible refine (spec_hasNumber.calls k1 _ _ x9_1 (rd l2 x12_1) false _ ?side1 ?side2 A27.out).mono ?_); (case side1 => repeat (first | exact (Kd.R_reads' HO_9.out).2.2 | (with_reducible refine Kd.C_alloc ?_ _) | (with_reducible refine Kd.C_drewN ?_ _) | (with_reducible refine Kd.C_drew ?_))); (case side2 => exact (Kd.R_reads' HO_9.out).2.1); rintro e w' ⟨rfl, ⟨nd, rfl⟩⟩) | ((with_reducible refine gate_builtin (b := .append) (xs := #[.tmp 47, .tmp 49]) rfl ?_); (try (refine gate_guard (by rfl) ?_; dsimp only)); at_builtin; refine Kd.R_append Kd.bool (w0 := w) w.heap.size rfl (.tmp 47) (.tmp 49) 28 4 (.bool false) 1 rfl Try.underlying28 info4 rfl (by decide) (by omega) u11 x11_1 (!false) [.bool (!false)] (fun _ => True) (fun _ => False) rfl rfl ?aP (fun _ hk => hk.elim) ?aF ?aO ?aB ?aS ?aL ?_; (case aP => exact rfl); (case aB => exact (by repeat (first | (with_reducible first | exact HB.out | apply below_alloc | apply pw_below_drewN | apply below_drew1) | exact HB.out))); (case aF => exact (fun _ _ => trivial)); (case aO => exact (by (with_reducible repeat (first | apply Kd.R_alloc | apply Kd.R_drewN | apply Kd.R_drew)); exact HO_11.out)); (case aS => exact (below_size (by repeat (first | (with_reducible first | exact HB.out | apply below_alloc | apply pw_below_drewN | apply below_drew1) | exact HB.out)))); (case aL => have := LMc28.out; omega); intro v113 w43 ho hb hg hat; rw [← Ny112.out] at ho; have n0_ := Aside0.mk (Kd.R_over' (by (with_reducible repeat (first | apply Kd.R_alloc | apply Kd.R_drewN | apply Kd.R_drew)); exact HO_9.out) (Kd.R_typed (by (with_reducible repeat (first | apply Kd.R_alloc | apply Kd.R_drewN | apply Kd.R_drew)); exact HO_11.out)) (by decide) hg); have n1_ := Aside0.mk (hb); have n2_ := Aside0.mk (ho); clear HO_9; clear HB; clear HO_11; have HO_9 := n0_; have HB := n1_; have HO114 := n2_; clear n0_ n1_ n2_; clear ho hb hg hat))
                      go_roundg k1
                      case measure => have := HK1.out; omega
                      case rel => exact ⟨(x9_1), (x10_1), (y112), (wrap64 (x12_1 + 1)), (by first | rfl | (simp; done) | (simp [*]; done)), (by first | rfl | (simp; done) | (simp [*]; done)), H', ⟨by have := HK1.out; omega⟩, ⟨by (with_reducible repeat (first | apply Kd.R_alloc | apply Kd.R_drewN | apply Kd.R_drew)); exact HO_9.out⟩, ⟨by (with_reducible repeat (first | apply Kd.R_alloc | apply Kd.R_drewN | apply Kd.R_drew)); exact HO114.out⟩, ⟨by repeat (first | (with_reducible first | exact HB.out | apply below_alloc | apply pw_below_drewN | apply below_drew1) | exact HB.out)⟩⟩
                · rw [if_neg c28] at H
                  exact absurd H (by simp)
              · rw [if_neg c26] at H
                have c26b0 : decide ((IntKind.u64.wrap (x10_1 - (rd l2 x12_1))) < (IntKind.u64.wrap (a0))) = false := decide_eq_false c26
                clear c26
                by_cases c44 : x11_1.length < 140737488355328
                · rw [if_pos c44] at H
                  have LMc44 := Aside0.mk c44
                  clear c44
                  obtain ⟨y119, hy119⟩ : ∃ y_ : List Bool, y_ = (x11_1 ++ [false]) := ⟨_, rfl⟩
                  replace H : (spec_Replay.l0 k1 a0 a1 l2 l3 x9_1 x10_1 y119 (wrap64 (x12_1 + 1))) = some r := by first | (rw [hy119]; with_reducible exact H) | (have H2_ := (Option.bind_some _ _).symm.trans H; rw [hy119]; with_reducible exact H2_) | (have H2_ := (Option.bind_some _ _).symm.trans H; with_reducible exact H2_) | with_reducible exact H | (rw [hy119]; exact H) | exact H
                  have Ny119 := Aside0.mk hy119
                  clear hy119
                  have H' := Aside0.mk H
                  clear H
                  have p102 : 0 ≤ (x12_1 : Int) := of_decide_eq_true (by first | (with_reducible assumption) | assumption)
                  have q102 : x12_1 < (l2.length : Int) := of_decide_eq_true (by first | (with_reducible assumption) | assumption)
                  obtain ⟨ad102, e102, hx102_0⟩ := Kd.at_int HR2.out x12_1 p102 q102
                  cases e102
                  replace hx102_0 := (HB.out.cell (World.block_lt_of_cell? w _ hx102_0)).trans hx102_0
                  replace p102 := eq_true p102
                  replace q102 := eq_true q102
                  go_wp2_with (first | ((with_reducible refine gate_builtin (b := .append) (xs := #[.tmp 47, .tmp 49]) rfl ?_); (try (refine gate_guard (by rfl) ?_; dsimp only)); at_builtin; refine Kd.R_append Kd.bool (w0 := w) w.heap.size rfl (.tmp 47) (.tmp 49) 28 4 (.bool false) 1 rfl Try.underlying28 info4 rfl (by decide) (by omega) u11 x11_1 false [.bool false] (fun _ => True) (fun _ => False) rfl rfl ?aP (fun _ hk => hk.elim) ?aF ?aO ?aB ?aS ?aL ?_; (case aP => exact rfl); (case aB => exact (by repeat (first | (with_reducible first | exact HB.out | apply below_alloc | apply pw_below_drewN | apply below_drew1) | exact HB.out))); (case aF => exact (fun _ _ => trivial)); (case aO => exact (by (with_reducible repeat (first | apply Kd.R_alloc | apply Kd.R_drewN | apply Kd.R_drew)); exact HO_11.out)); (case aS => exact (below_size (by repeat (first | (with_reducible first | exact HB.out | apply below_alloc | apply pw_below_drewN | apply below_drew1) | exact HB.out)))); (case aL => have := LMc44.out; omega); intro v120 w45 ho hb hg hat; rw [← Ny119.out] at ho; have n0_ := Aside0.mk (Kd.R_over' (by (with_reducible repeat (first | apply Kd.R_alloc | apply Kd.R_drewN | apply Kd.R_drew)); exact HO_9.out) (Kd.R_typed (by (with_reducible repeat (first | apply Kd.R_alloc | apply Kd.R_drewN | apply Kd.R_drew)); exact HO_11.out)) (by decide) hg); have n1_ := Aside0.mk (hb); have n2_ := Aside0.mk (ho); clear HO_9; clear HB; clear HO_11; have HO_9 := n0_; have HB := n1_; have HO121 := n2_; clear n0_ n1_ n2_; clear ho hb hg hat))
                  go_roundg k1
                  case measure => have := HK1.out; omega
                  case rel => exact ⟨(x9_1), (x10_1), (y119), (wrap64 (x12_1 + 1)), (by first | rfl | (simp; done) | (simp [*]; done)), (by first | rfl | (simp; done) | (simp [*]; done)), H', ⟨by have := HK1.out; omega⟩, ⟨by (with_reducible repeat (first | apply Kd.R_alloc | apply Kd.R_drewN | apply Kd.R_drew)); exact HO_9.out⟩, ⟨by (with_reducible repeat (first | apply Kd.R_alloc | apply Kd.R_drewN | apply Kd.R_drew)); exact HO121.out⟩, ⟨by repeat (first | (with_reducible first | exact HB.out | apply below_alloc | apply pw_below_drewN | apply below_drew1) | exact HB.out)⟩⟩
                · rw [if_neg c44] at H
                  exact absurd H (by simp)
          · rw [if_neg c7] at H
            have c7b0 : decide ((rd l2 x12_1) ≤ a1) = false := decide_eq_false c7
            clear c7
            by_cases c46 : x11_1.length < 140737488355328
            · rw [if_pos c46] at H
              have LMc46 := Aside0.mk c46
              clear c46
              obtain ⟨y122, hy122⟩ : ∃ y_ : List Bool, y_ = (x11_1 ++ [false]) := ⟨_, rfl⟩
              replace H : (spec_Replay.l0 k1 a0 a1 l2 l3 x9_1 x10_1 y122 (wrap64 (x12_1 + 1))) = some r := by first | (rw [hy122]; with_reducible exact H) | (have H2_ := (Option.bind_some _ _).symm.trans H; rw [hy122]; with_reducible exact H2_) | (have H2_ := (Option.bind_some _ _).symm.trans H; with_reducible exact H2_) | with_reducible exact H | (rw [hy122]; exact H) | exact H
              have Ny122 := Aside0.mk hy122
              clear hy122
              have H' := Aside0.mk H
              clear H
              have p102 : 0 ≤ (x12_1 : Int) := of_decide_eq_true (by first | (with_reducible assumption) | assumption)
              have q102 : x12_1 < (l2.length : Int) := of_decide_eq_true (by first | (with_reducible assumption) | assumption)
              obtain ⟨ad102, e102, hx102_0⟩ := Kd.at_int HR2.out x12_1 p102 q102
              cases e102
              replace hx102_0 := (HB.out.cell (World.block_lt_of_cell? w _ hx102_0)).trans hx102_0
              replace p102 := eq_true p102
              replace q102 := eq_true q102
              go_wp2_with (first | ((with_reducible refine gate_builtin (b := .append) (xs := #[.tmp 47, .tmp 49]) rfl ?_); (try (refine gate_guard (by rfl) ?_; dsimp only)); at_builtin; refine Kd.R_append Kd.bool (w0 := w) w.heap.size rfl (.tmp 47) (.tmp 49) 28 4 (.bool false) 1 rfl Try.underlying28 info4 rfl (by decide) (by omega) u11 x11_1 false [.bool false] (fun _ => True) (fun _ => False) rfl rfl ?aP (fun _ hk => hk.elim) ?aF ?aO ?aB ?aS ?aL ?_; (case aP => exact rfl); (case aB => exact (by repeat (first | (with_reducible first | exact HB.out | apply below_alloc | apply pw_below_drewN | apply below_drew1) | exact HB.out))); (case aF => exact (fun _ _ => trivial)); (case aO => exact (by (with_reducible repeat (first | apply Kd.R_alloc | apply Kd.R_drewN | apply Kd.R_drew)); exact HO_11.out)); (case aS => exact (below_size (by repeat (first | (with_reducible first | exact HB.out | apply below_alloc | apply pw_below_drewN | apply below_drew1) | exact HB.out)))); (case aL => have := LMc46.out; omega); intro v123 w47 ho hb hg hat; rw [← Ny122.out] at ho; have n0_ := Aside0.mk (Kd.R_over' (by (with_reducible repeat (first | apply Kd.R_alloc | apply Kd.R_drewN | apply Kd.R_drew)); exact HO_9.out) (Kd.R_typed (by (with_reducible repeat (first | apply Kd.R_alloc | apply Kd.R_drewN | apply Kd.R_drew)); exact HO_11.out)) (by decide) hg); have n1_ := Aside0.mk (hb); have n2_ := Aside0.mk (ho); clear HO_9; clear HB; clear HO_11; have HO_9 := n0_; have HB := n1_; have HO124 := n2_; clear n0_ n1_ n2_; clear ho hb hg hat))
              go_roundg k1
              case measure => have := HK1.out; omega
              case rel => exact ⟨(x9_1), (x10_1), (y122), (wrap64 (x12_1 + 1)), (by first | rfl | (simp; done) | (simp [*]; done)), (by first | rfl | (simp; done) | (simp [*]; done)), H', ⟨by have := HK1.out; omega⟩, ⟨by (with_reducible repeat (first | apply Kd.R_alloc | apply Kd.R_drewN | apply Kd.R_drew)); exact HO_9.out⟩, ⟨by (with_reducible repeat (first | apply Kd.R_alloc | apply Kd.R_drewN | apply Kd.R_drew)); exact HO124.out⟩, ⟨by repeat (first | (with_reducible first | exact HB.out | apply below_alloc | apply pw_below_drewN | apply below_drew1) | exact HB.out)⟩⟩
            · rw [if_neg c46] at H
              exact absurd H (by simp)
        · rw [if_neg c6] at H
          exact absurd H (by simp)
      · rw [if_neg c5] at H
        have c5b0 : decide (x12_1 < (l2.length : Int)) = false := decide_eq_false c5
        clear c5
        obtain rfl := Option.some.inj H
        go_wp2
        go_ret
        exact ⟨_, by first | rfl | (simp [errW_none, errW_some] <;> rfl) | (simp [*, errW_none, errW_some] <;> rfl), by (with_reducible repeat (first | apply Kd.R_alloc | apply Kd.R_drewN | apply Kd.R_drew)); exact HO_11.out, by repeat (first | (with_reducible first | exact HB.out | apply below_alloc | apply pw_below_drewN | apply below_drew1) | exact HB.out)⟩

-- NOT PRINTED: function 4 (laws_FnWindow)

end Go.Proofs.Ytklihfjchomkmaa.PFnWindow
