-- Printed by a program, out of the translation.
import Derived.Test.YtblmbbllfiigmaaDoorPAllx0
import Derived.Test.YtblmbbllfiigmaaDoorPAllx1
import Derived.Test.YtblmbbllfiigmaaDoorPAllx3
import Derived.Test.YtblmbbllfiigmaaDoorPAllx4
import Derived.Test.YtblmbbllfiigmaaDoorPAllx5
import Derived.Test.YtblmbbllfiigmaaDoorMone
namespace Go.Proofs.YtblmbbllfiigmaaDoor.PAll
open Go.RowKit Go.Proofs.YtblmbbllfiigmaaDoorW.PrintWords Go.Proofs.YtblmbbllfiigmaaDoorW.PrintLast Go.Proofs.YtblmbbllfiigmaaDoorW.PrintMore
attribute [local go_sem] max2_int min2_int max_two min_two max_three min_three max_four min_four   -- for this text's walks alone
set_option linter.unusedVariables false
set_option linter.unusedSimpArgs false

/-! ### laws_FnManyTogether: function 4 -/
noncomputable section
mutual
def laws_FnManyTogether.j0 : Nat → List ByteArray → Int → List Int → Bool → Option (Bool)
  | 0, _, _, _, _ => none
  | k + 1, x0, x1, x2, x24 => if x24 = true then (some true) else ((laws_light.f k x0 x1).bind fun t286 => (if t286 = true then (laws_FnManyTogether.l0 k x0 x1 x2 ([] : List ByteArray) ([] : List ByteArray) x0 (x0.length : Int) 0) else (some true)))
def laws_FnManyTogether.l0 : Nat → List ByteArray → Int → List Int → List ByteArray → List ByteArray → List ByteArray → Int → Int → Option (Bool)
  | 0, _, _, _, _, _, _, _, _ => none
  | k + 1, x0, x1, x2, x7, x8, x29, x30, x31 => if x31 < x30 then (if 0 ≤ x31 then (if x31 < (x29.length : Int) then ((laws_cutting.f k 11 x31 (rdOf ByteArray.empty x29 x31) x1).bind fun t288 => (if x7.length + t288.length < 8796093022208 then ((laws_whole.f k 11 x31 (rdOf ByteArray.empty x29 x31)).bind fun t294 => (if x8.length < 8796093022208 then (laws_FnManyTogether.l0 k x0 x1 x2 (x7 ++ t288) (x8 ++ [t294]) x29 x30 (wrap64 (x31 + 1))) else (none))) else (none))) else (none)) else (none)) else ((laws_shuffle.f k x7 x2).bind fun t298 => (laws_FnManyTogether.l1 k x0 x8 (⟨#[]⟩ : ByteArray) t298 (t298.length : Int) 0))
def laws_FnManyTogether.l1 : Nat → List ByteArray → List ByteArray → ByteArray → List ByteArray → Int → Int → Option (Bool)
  | 0, _, _, _, _, _, _ => none
  | k + 1, x0, x8, x11, x51, x52, x53 => if x53 < x52 then (if 0 ≤ x53 then (if x53 < (x51.length : Int) then (if x11.size + (rdOf ByteArray.empty x51 x53).size ≤ 9223372036854775807 then (laws_FnManyTogether.l1 k x0 x8 (x11 ++ (rdOf ByteArray.empty x51 x53)) x51 x52 (wrap64 (x53 + 1))) else (none)) else (none)) else (none)) else ((laws_record.f k 0 x11).bind fun t302 => ((laws_pops.f k (([t302] : List ByteArray)) (wrap64 ((x0.length : Int) + 1))).bind fun t306 => ((impl_Fragments.f k t306).bind fun t309 => ((laws_come.f k t306 t309).bind fun bt312 => (if bt312.2 = true then ((laws_texts.f k bt312.1 x8).bind fun t316 => (some t316)) else (some false))))))
end
def laws_FnManyTogether.f (k : Nat) (l0 : List ByteArray) (a1 : Int) (l2 : List Int) : Option (Bool) := (laws_zzFits2.f k l0).bind fun t285 => (if t285 = true then (laws_FnManyTogether.j0 k l0 a1 l2 (decide ((l2.length : Int) > 2147483647))) else (laws_FnManyTogether.j0 k l0 a1 l2 true))
end
theorem laws_FnManyTogether.mono_l : ∀ k, (∀ y0 y1 y2 y3, LeO (laws_FnManyTogether.j0 k y0 y1 y2 y3) (laws_FnManyTogether.j0 (k + 1) y0 y1 y2 y3)) ∧ (∀ y0 y1 y2 y3 y4 y5 y6 y7, LeO (laws_FnManyTogether.l0 k y0 y1 y2 y3 y4 y5 y6 y7) (laws_FnManyTogether.l0 (k + 1) y0 y1 y2 y3 y4 y5 y6 y7)) ∧ (∀ y0 y1 y2 y3 y4 y5, LeO (laws_FnManyTogether.l1 k y0 y1 y2 y3 y4 y5) (laws_FnManyTogether.l1 (k + 1) y0 y1 y2 y3 y4 y5))
  | 0 => ⟨fun _ _ _ _ r h => by simp [laws_FnManyTogether.j0] at h, fun _ _ _ _ _ _ _ _ r h => by simp [laws_FnManyTogether.l0] at h, fun _ _ _ _ _ _ r h => by simp [laws_FnManyTogether.l1] at h⟩
  | k + 1 => by
    obtain ⟨ih0, ih1, ih2⟩ := laws_FnManyTogether.mono_l k
    refine ⟨?_, ?_, ?_⟩
    · intro y0 y1 y2 y3
      unfold laws_FnManyTogether.j0
      repeat' first
      | (with_reducible exact ih0 _ _ _ _)
      | (with_reducible exact ih1 _ _ _ _ _ _ _ _)
      | (with_reducible exact ih2 _ _ _ _ _ _)
      | (with_reducible exact impl_Fragments.mono _ _)
      | (with_reducible exact laws_come.mono _ _ _)
      | (with_reducible exact laws_cutting.mono _ _ _ _ _)
      | (with_reducible exact laws_light.mono _ _ _)
      | (with_reducible exact laws_pops.mono _ _ _)
      | (with_reducible exact laws_record.mono _ _ _)
      | (with_reducible exact laws_shuffle.mono _ _ _)
      | (with_reducible exact laws_texts.mono _ _ _)
      | (with_reducible exact laws_whole.mono _ _ _ _)
      | (with_reducible exact laws_zzFits2.mono _ _)
      | (with_reducible exact LeO.refl _)
      | (with_reducible exact LeO.none _)
      | (with_reducible refine LeO.ite ?_ ?_)
      | (with_reducible refine LeO.bind ?_ (fun _ => ?_))
      | exact ih0 _ _ _ _
      | exact ih1 _ _ _ _ _ _ _ _
      | exact ih2 _ _ _ _ _ _
      | exact impl_Fragments.mono _ _
      | exact laws_come.mono _ _ _
      | exact laws_cutting.mono _ _ _ _ _
      | exact laws_light.mono _ _ _
      | exact laws_pops.mono _ _ _
      | exact laws_record.mono _ _ _
      | exact laws_shuffle.mono _ _ _
      | exact laws_texts.mono _ _ _
      | exact laws_whole.mono _ _ _ _
      | exact laws_zzFits2.mono _ _
      | exact LeO.none _
      | refine LeO.ite ?_ ?_
      | refine LeO.bind ?_ (fun _ => ?_)
    · intro y0 y1 y2 y3 y4 y5 y6 y7
      unfold laws_FnManyTogether.l0
      repeat' first
      | (with_reducible exact ih0 _ _ _ _)
      | (with_reducible exact ih1 _ _ _ _ _ _ _ _)
      | (with_reducible exact ih2 _ _ _ _ _ _)
      | (with_reducible exact impl_Fragments.mono _ _)
      | (with_reducible exact laws_come.mono _ _ _)
      | (with_reducible exact laws_cutting.mono _ _ _ _ _)
      | (with_reducible exact laws_light.mono _ _ _)
      | (with_reducible exact laws_pops.mono _ _ _)
      | (with_reducible exact laws_record.mono _ _ _)
      | (with_reducible exact laws_shuffle.mono _ _ _)
      | (with_reducible exact laws_texts.mono _ _ _)
      | (with_reducible exact laws_whole.mono _ _ _ _)
      | (with_reducible exact laws_zzFits2.mono _ _)
      | (with_reducible exact LeO.refl _)
      | (with_reducible exact LeO.none _)
      | (with_reducible refine LeO.ite ?_ ?_)
      | (with_reducible refine LeO.bind ?_ (fun _ => ?_))
      | exact ih0 _ _ _ _
      | exact ih1 _ _ _ _ _ _ _ _
      | exact ih2 _ _ _ _ _ _
      | exact impl_Fragments.mono _ _
      | exact laws_come.mono _ _ _
      | exact laws_cutting.mono _ _ _ _ _
      | exact laws_light.mono _ _ _
      | exact laws_pops.mono _ _ _
      | exact laws_record.mono _ _ _
      | exact laws_shuffle.mono _ _ _
      | exact laws_texts.mono _ _ _
      | exact laws_whole.mono _ _ _ _
      | exact laws_zzFits2.mono _ _
      | exact LeO.none _
      | refine LeO.ite ?_ ?_
      | refine LeO.bind ?_ (fun _ => ?_)
    · intro y0 y1 y2 y3 y4 y5
      unfold laws_FnManyTogether.l1
      repeat' first
      | (with_reducible exact ih0 _ _ _ _)
      | (with_reducible exact ih1 _ _ _ _ _ _ _ _)
      | (with_reducible exact ih2 _ _ _ _ _ _)
      | (with_reducible exact impl_Fragments.mono _ _)
      | (with_reducible exact laws_come.mono _ _ _)
      | (with_reducible exact laws_cutting.mono _ _ _ _ _)
      | (with_reducible exact laws_light.mono _ _ _)
      | (with_reducible exact laws_pops.mono _ _ _)
      | (with_reducible exact laws_record.mono _ _ _)
      | (with_reducible exact laws_shuffle.mono _ _ _)
      | (with_reducible exact laws_texts.mono _ _ _)
      | (with_reducible exact laws_whole.mono _ _ _ _)
      | (with_reducible exact laws_zzFits2.mono _ _)
      | (with_reducible exact LeO.refl _)
      | (with_reducible exact LeO.none _)
      | (with_reducible refine LeO.ite ?_ ?_)
      | (with_reducible refine LeO.bind ?_ (fun _ => ?_))
      | exact ih0 _ _ _ _
      | exact ih1 _ _ _ _ _ _ _ _
      | exact ih2 _ _ _ _ _ _
      | exact impl_Fragments.mono _ _
      | exact laws_come.mono _ _ _
      | exact laws_cutting.mono _ _ _ _ _
      | exact laws_light.mono _ _ _
      | exact laws_pops.mono _ _ _
      | exact laws_record.mono _ _ _
      | exact laws_shuffle.mono _ _ _
      | exact laws_texts.mono _ _ _
      | exact laws_whole.mono _ _ _ _
      | exact laws_zzFits2.mono _ _
      | exact LeO.none _
      | refine LeO.ite ?_ ?_
      | refine LeO.bind ?_ (fun _ => ?_)
theorem laws_FnManyTogether.mono : ∀ a0 a1 a2 k, LeO (laws_FnManyTogether.f k a0 a1 a2) (laws_FnManyTogether.f (k + 1) a0 a1 a2) := by
  intro a0 a1 a2 k
  obtain ⟨ih0, ih1, ih2⟩ := laws_FnManyTogether.mono_l k
  unfold laws_FnManyTogether.f
  repeat' first
      | (with_reducible exact ih0 _ _ _ _)
      | (with_reducible exact ih1 _ _ _ _ _ _ _ _)
      | (with_reducible exact ih2 _ _ _ _ _ _)
      | (with_reducible exact impl_Fragments.mono _ _)
      | (with_reducible exact laws_come.mono _ _ _)
      | (with_reducible exact laws_cutting.mono _ _ _ _ _)
      | (with_reducible exact laws_light.mono _ _ _)
      | (with_reducible exact laws_pops.mono _ _ _)
      | (with_reducible exact laws_record.mono _ _ _)
      | (with_reducible exact laws_shuffle.mono _ _ _)
      | (with_reducible exact laws_texts.mono _ _ _)
      | (with_reducible exact laws_whole.mono _ _ _ _)
      | (with_reducible exact laws_zzFits2.mono _ _)
      | (with_reducible exact LeO.refl _)
      | (with_reducible exact LeO.none _)
      | (with_reducible refine LeO.ite ?_ ?_)
      | (with_reducible refine LeO.bind ?_ (fun _ => ?_))
      | exact ih0 _ _ _ _
      | exact ih1 _ _ _ _ _ _ _ _
      | exact ih2 _ _ _ _ _ _
      | exact impl_Fragments.mono _ _
      | exact laws_come.mono _ _ _
      | exact laws_cutting.mono _ _ _ _ _
      | exact laws_light.mono _ _ _
      | exact laws_pops.mono _ _ _
      | exact laws_record.mono _ _ _
      | exact laws_shuffle.mono _ _ _
      | exact laws_texts.mono _ _ _
      | exact laws_whole.mono _ _ _ _
      | exact laws_zzFits2.mono _ _
      | exact LeO.none _
      | refine LeO.ite ?_ ?_
      | refine LeO.bind ?_ (fun _ => ?_)
set_option maxHeartbeats 8000000 in
set_option maxRecDepth 100000 in
theorem laws_FnManyTogether.calls (k : Nat) (A0 : Option Addr) (c0 : Nat) (l0 : List ByteArray) (a1 : Int) (A2 : Option Addr) (c2 : Nat) (l2 : List Int) (r : Bool) (w : World) (hr0 : Kd.C Kd.string w A0 l0.length l0) (hc0 : l0.length ≤ c0) (hr2 : Kd.C (Kd.int .i64) w A2 l2.length l2) (hc2 : l2.length ≤ c2) (h : laws_FnManyTogether.f k l0 a1 l2 = some r) (hgl : GL w) :
    Calls Tryd.prog 4 #[.slice A0 l0.length c0, .int .i64 a1, .slice A2 l2.length c2] w fun e w' => e = .returned (.bool r) ∧ Below w.heap.size w w' := by
  have HGL := Aside0.mk hgl
  clear hgl
  have HR0 := Aside0.mk hr0
  have HC0 := Aside0.mk hc0
  clear hr0 hc0
  have HR2 := Aside0.mk hr2
  have HC2 := Aside0.mk hc2
  clear hr2 hc2
  have HB := Aside0.mk (Below.refl w.heap.size w)
  have H : ((laws_zzFits2.f k l0).bind fun t285 => (if t285 = true then (laws_FnManyTogether.j0 k l0 a1 l2 (decide ((l2.length : Int) > 2147483647))) else (laws_FnManyTogether.j0 k l0 a1 l2 true))) = some r := h
  clear h
  have HC4 := Aside0.mk H
  clear H
  go_enter Tryd.func4, Tryd.ntmps4
  go_upto_region 1 with (fail)
  go_cut [24] (fun v24 wc => ∃ (kq : Nat) (x24_3 : Bool), v24 = .bool x24_3 ∧ Aside0 (laws_FnManyTogether.j0 kq l0 a1 l2 x24_3 = some r) ∧ Aside0 (kq ≤ k) ∧ Aside0 (Below w.heap.size w wc))
  case first =>
    have H := HC4.out
    clear HC4
    replace H := Option.bind_eq_some_iff.mp H
    obtain ⟨t285, A50, H⟩ := H
    replace H : (if t285 = true then (laws_FnManyTogether.j0 k l0 a1 l2 (decide ((l2.length : Int) > 2147483647))) else (laws_FnManyTogether.j0 k l0 a1 l2 true)) = some r := H
    have A5 := Aside0.mk A50
    clear A50
    by_cases c6 : t285 = true
    · subst c6
      have H1 : (laws_FnManyTogether.j0 k l0 a1 l2 (decide ((l2.length : Int) > 2147483647))) = some r := by rw [if_pos rfl] at H; exact H
      clear H
      have H := H1
      clear H1
      have H' := Aside0.mk H
      clear H
      go_wp2_with (first | ((with_reducible refine gate_callee (f := 16) rfl ?_); refine goesL_ (some 18) rfl rfl Tryd.func16 (by kernel_rfl) rfl #[.slice A0 l0.length c0] rfl (by (try simp only [List.map_toArray, List.map_cons, List.map_nil]); first | done | rfl | (simp only [List.length_drop, List.length_take]; rfl)) ?_; (with_reducible refine (laws_zzFits2.calls k _ _ l0 true _ ?side1 ?side2 A5.out).mono ?_); (case side1 => repeat (first | exact (Kd.C_below HR0.out HB.out) | (with_reducible refine Kd.C_alloc ?_ _) | (with_reducible refine Kd.C_drewN ?_ _) | (with_reducible refine Kd.C_drew ?_))); (case side2 => exact HC0.out); rintro e w' ⟨rfl, ⟨nd, rfl⟩⟩; refine ⟨_, rfl, ?_⟩))
      go_meet
      case rel => exact ⟨_, (decide ((l2.length : Int) > 2147483647)), (by first | rfl | (simp; done) | (simp [*]; done)), H', ⟨by first | omega | exact Nat.le_refl _⟩, ⟨by repeat (first | (with_reducible first | exact HB.out | apply below_alloc | apply pw_below_drewN | apply below_drew1) | exact HB.out)⟩⟩
    · replace c6 := Bool.eq_false_iff.mpr c6
      subst c6
      have H1 : (laws_FnManyTogether.j0 k l0 a1 l2 true) = some r := by rw [if_neg (show ¬ (false = true) by decide)] at H; exact H
      clear H
      have H := H1
      clear H1
      have H' := Aside0.mk H
      clear H
      go_wp2_with (first | ((with_reducible refine gate_callee (f := 16) rfl ?_); refine goesL_ (some 18) rfl rfl Tryd.func16 (by kernel_rfl) rfl #[.slice A0 l0.length c0] rfl (by (try simp only [List.map_toArray, List.map_cons, List.map_nil]); first | done | rfl | (simp only [List.length_drop, List.length_take]; rfl)) ?_; (with_reducible refine (laws_zzFits2.calls k _ _ l0 false _ ?side1 ?side2 A5.out).mono ?_); (case side1 => repeat (first | exact (Kd.C_below HR0.out HB.out) | (with_reducible refine Kd.C_alloc ?_ _) | (with_reducible refine Kd.C_drewN ?_ _) | (with_reducible refine Kd.C_drew ?_))); (case side2 => exact HC0.out); rintro e w' ⟨rfl, ⟨nd, rfl⟩⟩; refine ⟨_, rfl, ?_⟩))
      go_meet
      case rel => exact ⟨_, (true), (by first | rfl | (simp; done) | (simp [*]; done)), H', ⟨by first | omega | exact Nat.le_refl _⟩, ⟨by repeat (first | (with_reducible first | exact HB.out | apply below_alloc | apply pw_below_drewN | apply below_drew1) | exact HB.out)⟩⟩
  case rest =>
    clear HC4
    try clear c1
    try clear c2
    try clear p2
    try clear c4
    try clear c6
    obtain ⟨kq, x24_3, rfl, HA, HJ3, HB⟩ := hcut
    cases kq with
    | zero => exact absurd HA.out (by simp [laws_FnManyTogether.j0])
    | succ kj3 =>
      have H := HA.out
      clear HA
      simp only [laws_FnManyTogether.j0] at H
      by_cases c7 : x24_3 = true
      · subst c7
        have H1 : (some true) = some r := by rw [if_pos rfl] at H; exact H
        clear H
        have H := H1
        clear H1
        obtain rfl := Option.some.inj H
        go_wp2
        go_ret
        exact ⟨by first | rfl | (simp [errW_none, errW_some] <;> rfl) | (simp [*, errW_none, errW_some] <;> rfl), by repeat (first | (with_reducible first | exact HB.out | apply below_alloc | apply pw_below_drewN | apply below_drew1) | exact HB.out)⟩
      · replace c7 := Bool.eq_false_iff.mpr c7
        subst c7
        have H1 : ((laws_light.f kj3 l0 a1).bind fun t286 => (if t286 = true then (laws_FnManyTogether.l0 kj3 l0 a1 l2 ([] : List ByteArray) ([] : List ByteArray) l0 (l0.length : Int) 0) else (some true))) = some r := by rw [if_neg (show ¬ (false = true) by decide)] at H; exact H
        clear H
        have H := H1
        clear H1
        replace H := Option.bind_eq_some_iff.mp H
        obtain ⟨t286, A80, H⟩ := H
        replace H : (if t286 = true then (laws_FnManyTogether.l0 kj3 l0 a1 l2 ([] : List ByteArray) ([] : List ByteArray) l0 (l0.length : Int) 0) else (some true)) = some r := H
        have A8 := Aside0.mk A80
        clear A80
        by_cases c9 : t286 = true
        · subst c9
          have H1 : (laws_FnManyTogether.l0 kj3 l0 a1 l2 ([] : List ByteArray) ([] : List ByteArray) l0 (l0.length : Int) 0) = some r := by rw [if_pos rfl] at H; exact H
          clear H
          have H := H1
          clear H1
          have H' := Aside0.mk H
          clear H
          go_wp2_with (first | ((with_reducible refine gate_callee (f := 7) rfl ?_); refine goesL_ (some 27) rfl rfl Tryd.func7 (by kernel_rfl) rfl #[.slice A0 l0.length c0, .int .i64 a1] rfl (by (try simp only [List.map_toArray, List.map_cons, List.map_nil]); first | done | rfl | (simp only [List.length_drop, List.length_take]; rfl)) ?_; (with_reducible refine (laws_light.calls kj3 _ _ l0 a1 true _ ?side1 ?side2 A8.out).mono ?_); (case side1 => repeat (first | exact (Kd.C_below HR0.out HB.out) | (with_reducible refine Kd.C_alloc ?_ _) | (with_reducible refine Kd.C_drewN ?_ _) | (with_reducible refine Kd.C_drew ?_))); (case side2 => exact HC0.out); rintro e w' ⟨rfl, ⟨nd, rfl⟩⟩; refine ⟨_, rfl, ?_⟩))
          go_loopg [7, 8, 31] kj3 (fun kq v7 v8 v31 w' => ∃ (x7_2 : List ByteArray) (x8_2 : List ByteArray) (x31_2 : Int), v31 = .int .i64 x31_2 ∧ Aside0 (laws_FnManyTogether.l0 kq l0 a1 l2 x7_2 x8_2 l0 (l0.length : Int) x31_2 = some r) ∧ Aside0 (kq ≤ kj3) ∧ Aside0 (Kd.R Kd.string 9 w' w.heap.size (fun k_ => some k_ ≠ (v8 : Value).ownBlock) v7 x7_2) ∧ Aside0 (Kd.R Kd.string 9 w' w.heap.size (fun k_ => some k_ ≠ (v7 : Value).ownBlock) v8 x8_2) ∧ Aside0 (Below w.heap.size w w'))
          case atStart => exact ⟨(([] : List ByteArray)), (([] : List ByteArray)), (0), (by first | rfl | (simp; done) | (simp [*]; done)), H', ⟨Nat.le_refl _⟩, ⟨by first | exact Kd.R_nil _ _ _ _ _ | exact Kd.N_nil _ _ _ _ _ | exact Kd.V_nil _ _ _ _ _ | exact Kd.Q_nil _ _ _ _ _ | exact Kd.S_nil _ _ _ _ _⟩, ⟨by first | exact Kd.R_nil _ _ _ _ _ | exact Kd.N_nil _ _ _ _ _ | exact Kd.V_nil _ _ _ _ _ | exact Kd.Q_nil _ _ _ _ _ | exact Kd.S_nil _ _ _ _ _⟩, ⟨by repeat (first | (with_reducible first | exact HB.out | apply below_alloc | apply pw_below_drewN | apply below_drew1) | exact HB.out)⟩⟩
          case round =>
            clear H'
            try clear c1
            try clear c2
            try clear p2
            try clear c4
            try clear c6
            try clear c7
            try clear c9
            try clear p2
            obtain ⟨x7_2, x8_2, x31_2, rfl, HA, HK2, HO_7, HO_8, HB⟩ := hrel
            cases gk with
            | zero => exact absurd HA.out (by simp [laws_FnManyTogether.l0])
            | succ k2 =>
              have H := HA.out
              clear HA
              simp only [laws_FnManyTogether.l0] at H
              by_cases c10 : x31_2 < (l0.length : Int)
              · rw [if_pos c10] at H
                have c10b0 : decide (x31_2 < (l0.length : Int)) = true := decide_eq_true c10
                clear c10
                by_cases c11 : 0 ≤ x31_2
                · rw [if_pos c11] at H
                  have c11b0 : decide (0 ≤ x31_2) = true := decide_eq_true c11
                  clear c11
                  by_cases c12 : x31_2 < (l0.length : Int)
                  · rw [if_pos c12] at H
                    have c12b0 : decide (x31_2 < (l0.length : Int)) = true := decide_eq_true c12
                    clear c12
                    replace H := Option.bind_eq_some_iff.mp H
                    obtain ⟨t288, A130, H⟩ := H
                    replace H : (if x7_2.length + t288.length < 8796093022208 then ((laws_whole.f k2 11 x31_2 (rdOf ByteArray.empty l0 x31_2)).bind fun t294 => (if x8_2.length < 8796093022208 then (laws_FnManyTogether.l0 k2 l0 a1 l2 (x7_2 ++ t288) (x8_2 ++ [t294]) l0 (l0.length : Int) (wrap64 (x31_2 + 1))) else (none))) else (none)) = some r := H
                    have A13 := Aside0.mk A130
                    clear A130
                    by_cases c14 : x7_2.length + t288.length < 8796093022208
                    · rw [if_pos c14] at H
                      have LMc14 := Aside0.mk c14
                      clear c14
                      obtain ⟨y291, hy291⟩ : ∃ y_ : List ByteArray, y_ = (x7_2 ++ t288) := ⟨_, rfl⟩
                      replace H : ((laws_whole.f k2 11 x31_2 (rdOf ByteArray.empty l0 x31_2)).bind fun t294 => (if x8_2.length < 8796093022208 then (laws_FnManyTogether.l0 k2 l0 a1 l2 y291 (x8_2 ++ [t294]) l0 (l0.length : Int) (wrap64 (x31_2 + 1))) else (none))) = some r := by first | (rw [hy291]; with_reducible exact H) | (have H2_ := (Option.bind_some _ _).symm.trans H; rw [hy291]; with_reducible exact H2_) | (have H2_ := (Option.bind_some _ _).symm.trans H; with_reducible exact H2_) | with_reducible exact H | (rw [hy291]; exact H) | exact H
                      have Ny291 := Aside0.mk hy291
                      clear hy291
                      replace H := Option.bind_eq_some_iff.mp H
                      obtain ⟨t294, A150, H⟩ := H
                      replace H : (if x8_2.length < 8796093022208 then (laws_FnManyTogether.l0 k2 l0 a1 l2 y291 (x8_2 ++ [t294]) l0 (l0.length : Int) (wrap64 (x31_2 + 1))) else (none)) = some r := H
                      have A15 := Aside0.mk A150
                      clear A150
                      by_cases c16 : x8_2.length < 8796093022208
                      · rw [if_pos c16] at H
                        have LMc16 := Aside0.mk c16
                        clear c16
                        obtain ⟨y295, hy295⟩ : ∃ y_ : List ByteArray, y_ = (x8_2 ++ [t294]) := ⟨_, rfl⟩
                        replace H : (laws_FnManyTogether.l0 k2 l0 a1 l2 y291 y295 l0 (l0.length : Int) (wrap64 (x31_2 + 1))) = some r := by first | (rw [hy295]; with_reducible exact H) | (have H2_ := (Option.bind_some _ _).symm.trans H; rw [hy295]; with_reducible exact H2_) | (have H2_ := (Option.bind_some _ _).symm.trans H; with_reducible exact H2_) | with_reducible exact H | (rw [hy295]; exact H) | exact H
                        have Ny295 := Aside0.mk hy295
                        clear hy295
                        have H' := Aside0.mk H
                        clear H
                        have p287 : 0 ≤ (x31_2 : Int) := of_decide_eq_true (by first | (with_reducible assumption) | assumption)
                        have q287 : x31_2 < (l0.length : Int) := of_decide_eq_true (by first | (with_reducible assumption) | assumption)
                        obtain ⟨ad287, e287, hx287_0⟩ := Kd.at_string HR0.out x31_2 p287 q287
                        cases e287
                        replace hx287_0 := (HB.out.cell (World.block_lt_of_cell? w _ hx287_0)).trans hx287_0
                        replace p287 := eq_true p287
                        replace q287 := eq_true q287
                        go_wp2_with (first | ((with_reducible refine gate_callee (f := 8) rfl ?_); refine goesL_ (some 40) rfl rfl Tryd.func8 (by kernel_rfl) rfl #[.int .u8 11, .int .i64 x31_2, .string (rdOf ByteArray.empty l0 x31_2), .int .i64 a1] rfl (by (try simp only [List.map_toArray, List.map_cons, List.map_nil]); first | done | rfl | (simp only [List.length_drop, List.length_take]; rfl)) ?_; (with_reducible refine (laws_cutting.calls k2 11 x31_2 (rdOf ByteArray.empty l0 x31_2) a1 t288 _ A13.out).mono ?_); rintro e w17 ⟨v289, rfl, ho0, hb⟩; refine ⟨_, rfl, ?_⟩; have n0_ := Aside0.mk (Kd.R_elder' (by (with_reducible repeat (first | apply Kd.R_alloc | apply Kd.R_drewN | apply Kd.R_drew)); exact HO_7.out) (Kd.R_base ho0) hb); have n1_ := Aside0.mk (Kd.R_elder' (by (with_reducible repeat (first | apply Kd.R_alloc | apply Kd.R_drewN | apply Kd.R_drew)); exact HO_8.out) (Kd.R_base ho0) hb); have n2_ := Aside0.mk (Kd.R_lower (Kd.R_new' (Kd.R_new' ho0 (Kd.R_lt (by (with_reducible repeat (first | apply Kd.R_alloc | apply Kd.R_drewN | apply Kd.R_drew)); exact HO_7.out))) (Kd.R_lt (by (with_reducible repeat (first | apply Kd.R_alloc | apply Kd.R_drewN | apply Kd.R_drew)); exact HO_8.out))) (below_size (by repeat (first | (with_reducible first | exact HB.out | apply below_alloc | apply pw_below_drewN | apply below_drew1) | exact HB.out)))); have n3_ := Aside0.mk (below_step (by repeat (first | (with_reducible first | exact HB.out | apply below_alloc | apply pw_below_drewN | apply below_drew1) | exact HB.out)) hb); clear HO_7; clear HO_8; clear HB; have HO_7 := n0_; have HO_8 := n1_; have HO290 := n2_; have HB := n3_; clear n0_ n1_ n2_ n3_; (try clear hb); (try clear hb2); (try clear hk); (try clear hi); (try clear ho0); obtain ⟨Ao19, co19, eo19⟩ := Kd.R_slice HO290.out; subst eo19) | ((with_reducible refine gate_builtin (b := .append) (xs := #[.tmp 36, .tmp 40]) rfl ?_); (try (refine gate_guard (by rfl) ?_; dsimp only)); at_builtin; refine Kd.R_append_rows Kd.string (w0 := w) w.heap.size rfl (.tmp 36) (.tmp 40) 24 9 (.string ⟨#[]⟩) 16 rfl Tryd.underlying24 info9 rfl (by decide) (by omega) u7 x7_2 t288 _ _ _ (fun k_ => some k_ ≠ (u8 : Value).ownBlock ∧ some k_ ≠ (.slice Ao19 t288.length co19 : Value).ownBlock) (fun _ => False) rfl rfl ?aO ?aR (fun _ _ h => h) (fun _ h => h.elim) ?aF ?aB ?aS ?aL ?_; (case aR => repeat (first | exact (Kd.R_reads' HO290.out).2.2 | (with_reducible refine Kd.C_alloc ?_ _) | (with_reducible refine Kd.C_drewN ?_ _) | (with_reducible refine Kd.C_drew ?_))); (case aB => exact (by repeat (first | (with_reducible first | exact HB.out | apply below_alloc | apply pw_below_drewN | apply below_drew1) | exact HB.out))); (case aF => exact (fun k_ hk => ⟨Kd.fresh' (Kd.R_lt (by (with_reducible repeat (first | apply Kd.R_alloc | apply Kd.R_drewN | apply Kd.R_drew)); exact HO_8.out)) k_ hk, Kd.fresh' (Kd.R_lt (by (with_reducible repeat (first | apply Kd.R_alloc | apply Kd.R_drewN | apply Kd.R_drew)); exact HO290.out)) k_ hk⟩)); (case aO => exact (by (with_reducible repeat (first | apply Kd.R_alloc | apply Kd.R_drewN | apply Kd.R_drew)); exact HO_7.out)); (case aS => exact (below_size (by repeat (first | (with_reducible first | exact HB.out | apply below_alloc | apply pw_below_drewN | apply below_drew1) | exact HB.out)))); (case aL => have := LMc14.out; omega); intro v292 w18 ho hb hg hat; rw [← Ny291.out] at ho; have n0_ := Aside0.mk (Kd.R_after (ok := (fun k_ => some k_ ≠ (.slice Ao19 t288.length co19 : Value).ownBlock)) (by (with_reducible repeat (first | apply Kd.R_alloc | apply Kd.R_drewN | apply Kd.R_drew)); exact Kd.R_mono HO_8.out (fun _ hk => ⟨hk.2, hk.1⟩)) hg hat); have n1_ := Aside0.mk (Kd.R_after (ok := (fun k_ => some k_ ≠ (u8 : Value).ownBlock)) (by (with_reducible repeat (first | apply Kd.R_alloc | apply Kd.R_drewN | apply Kd.R_drew)); exact Kd.R_mono HO290.out (fun _ hk => ⟨hk.2, hk.1.2⟩)) hg hat); have n2_ := Aside0.mk (hb); have n3_ := Aside0.mk (ho); clear HO_8; clear HO290; clear HB; clear HO_7; have HO_8 := n0_; have HO290 := n1_; have HB := n2_; have HO293 := n3_; clear n0_ n1_ n2_ n3_; clear ho hb hg hat) | ((with_reducible refine gate_callee (f := 15) rfl ?_); refine goesL_ (some 45) rfl rfl Tryd.func15 (by kernel_rfl) rfl #[.int .u8 11, .int .i64 x31_2, .string (rdOf ByteArray.empty l0 x31_2)] rfl (by (try simp only [List.map_toArray, List.map_cons, List.map_nil]); first | done | rfl | (simp only [List.length_drop, List.length_take]; rfl)) ?_; (with_reducible refine (laws_whole.calls k2 11 x31_2 (rdOf ByteArray.empty l0 x31_2) t294 _ A15.out).mono ?_); rintro e w20 ⟨rfl, hb⟩; refine ⟨_, rfl, ?_⟩; have n0_ := Aside0.mk (Kd.R_below (by (with_reducible repeat (first | apply Kd.R_alloc | apply Kd.R_drewN | apply Kd.R_drew)); exact HO_8.out) hb); have n1_ := Aside0.mk (Kd.R_below (by (with_reducible repeat (first | apply Kd.R_alloc | apply Kd.R_drewN | apply Kd.R_drew)); exact HO290.out) hb); have n2_ := Aside0.mk (Kd.R_below (by (with_reducible repeat (first | apply Kd.R_alloc | apply Kd.R_drewN | apply Kd.R_drew)); exact HO293.out) hb); have n3_ := Aside0.mk (below_step (by repeat (first | (with_reducible first | exact HB.out | apply below_alloc | apply pw_below_drewN | apply below_drew1) | exact HB.out)) hb); clear HO_8; clear HO290; clear HO293; clear HB; have HO_8 := n0_; have HO290 := n1_; have HO293 := n2_; have HB := n3_; clear n0_ n1_ n2_ n3_; (try clear hb); (try clear hb2); (try clear hk); (try clear hi)) | ((with_reducible refine gate_builtin (b := .append) (xs := #[.tmp 42, .tmp 46]) rfl ?_); (try (refine gate_guard (by rfl) ?_; dsimp only)); at_builtin; refine Kd.R_append Kd.string (w0 := w) w.heap.size rfl (.tmp 42) (.tmp 46) 24 9 (.string ⟨#[]⟩) 16 rfl Tryd.underlying24 info9 rfl (by decide) (by omega) u8 x8_2 t294 [.string t294] (fun k_ => some k_ ≠ (.slice Ao19 t288.length co19 : Value).ownBlock ∧ some k_ ≠ (v292 : Value).ownBlock) (fun _ => False) rfl rfl ?aP (fun _ hk => hk.elim) ?aF ?aO ?aB ?aS ?aL ?_; (case aP => exact rfl); (case aB => exact (by repeat (first | (with_reducible first | exact HB.out | apply below_alloc | apply pw_below_drewN | apply below_drew1) | exact HB.out))); (case aF => exact (fun k_ hk => ⟨Kd.fresh' (Kd.R_lt (by (with_reducible repeat (first | apply Kd.R_alloc | apply Kd.R_drewN | apply Kd.R_drew)); exact HO290.out)) k_ hk, Kd.fresh' (Kd.R_lt (by (with_reducible repeat (first | apply Kd.R_alloc | apply Kd.R_drewN | apply Kd.R_drew)); exact HO293.out)) k_ hk⟩)); (case aO => exact (by (with_reducible repeat (first | apply Kd.R_alloc | apply Kd.R_drewN | apply Kd.R_drew)); exact HO_8.out)); (case aS => exact (below_size (by repeat (first | (with_reducible first | exact HB.out | apply below_alloc | apply pw_below_drewN | apply below_drew1) | exact HB.out)))); (case aL => have := LMc16.out; omega); intro v296 w21 ho hb hg hat; rw [← Ny295.out] at ho; have n0_ := Aside0.mk (Kd.R_after (ok := (fun k_ => some k_ ≠ (v292 : Value).ownBlock)) (by (with_reducible repeat (first | apply Kd.R_alloc | apply Kd.R_drewN | apply Kd.R_drew)); exact Kd.R_mono HO290.out (fun _ hk => ⟨hk.2, hk.1⟩)) hg hat); have n1_ := Aside0.mk (Kd.R_after (ok := (fun k_ => some k_ ≠ (.slice Ao19 t288.length co19 : Value).ownBlock)) (by (with_reducible repeat (first | apply Kd.R_alloc | apply Kd.R_drewN | apply Kd.R_drew)); exact Kd.R_mono HO293.out (fun _ hk => ⟨hk.2, hk.1⟩)) hg hat); have n2_ := Aside0.mk (hb); have n3_ := Aside0.mk (ho); clear HO290; clear HO293; clear HB; clear HO_8; have HO290 := n0_; have HO293 := n1_; have HB := n2_; have HO297 := n3_; clear n0_ n1_ n2_ n3_; clear ho hb hg hat))
                        go_roundg k2
                        case measure => have := HJ3.out; have := HK2.out; omega
                        case rel => exact ⟨(y291), (y295), (wrap64 (x31_2 + 1)), (by first | rfl | (simp; done) | (simp [*]; done)), H', ⟨by have := HJ3.out; have := HK2.out; omega⟩, ⟨by (with_reducible repeat (first | apply Kd.R_alloc | apply Kd.R_drewN | apply Kd.R_drew)); exact Kd.R_mono HO293.out (fun _ hk => hk.2)⟩, ⟨by (with_reducible repeat (first | apply Kd.R_alloc | apply Kd.R_drewN | apply Kd.R_drew)); exact Kd.R_mono HO297.out (fun _ hk => hk.2)⟩, ⟨by repeat (first | (with_reducible first | exact HB.out | apply below_alloc | apply pw_below_drewN | apply below_drew1) | exact HB.out)⟩⟩
                      · rw [if_neg c16] at H
                        exact absurd H (by simp)
                    · rw [if_neg c14] at H
                      exact absurd H (by simp)
                  · rw [if_neg c12] at H
                    exact absurd H (by simp)
                · rw [if_neg c11] at H
                  exact absurd H (by simp)
              · rw [if_neg c10] at H
                have c10b0 : decide (x31_2 < (l0.length : Int)) = false := decide_eq_false c10
                clear c10
                replace H := Option.bind_eq_some_iff.mp H
                obtain ⟨t298, A220, H⟩ := H
                replace H : (laws_FnManyTogether.l1 k2 l0 x8_2 (⟨#[]⟩ : ByteArray) t298 (t298.length : Int) 0) = some r := H
                have A22 := Aside0.mk A220
                clear A220
                have H' := Aside0.mk H
                clear H
                obtain ⟨Ao23, co23, eo23⟩ := Kd.R_slice HO_7.out
                subst eo23
                go_wp2_with (first | ((with_reducible refine gate_callee (f := 9) rfl ?_); refine goesL_ (some 51) rfl rfl Tryd.func9 (by kernel_rfl) rfl #[.slice Ao23 x7_2.length co23, .slice A2 l2.length c2] rfl (by (try simp only [List.map_toArray, List.map_cons, List.map_nil]); first | done | rfl | (simp only [List.length_drop, List.length_take]; rfl)) ?_; (with_reducible refine (laws_shuffle.calls k2 _ _ x7_2 _ _ l2 t298 _ ?side1 ?side2 ?side3 ?side4 A22.out).mono ?_); (case side1 => repeat (first | exact (Kd.R_reads' HO_7.out).2.2 | (with_reducible refine Kd.C_alloc ?_ _) | (with_reducible refine Kd.C_drewN ?_ _) | (with_reducible refine Kd.C_drew ?_))); (case side2 => exact (Kd.R_reads' HO_7.out).2.1); (case side3 => repeat (first | exact (Kd.C_below HR2.out HB.out) | (with_reducible refine Kd.C_alloc ?_ _) | (with_reducible refine Kd.C_drewN ?_ _) | (with_reducible refine Kd.C_drew ?_))); (case side4 => exact HC2.out); rintro e w24 ⟨v299, rfl, ho0, hb⟩; refine ⟨_, rfl, ?_⟩; have n0_ := Aside0.mk (Kd.R_elder' (by (with_reducible repeat (first | apply Kd.R_alloc | apply Kd.R_drewN | apply Kd.R_drew)); exact HO_7.out) (Kd.R_base ho0) hb); have n1_ := Aside0.mk (Kd.R_elder' (by (with_reducible repeat (first | apply Kd.R_alloc | apply Kd.R_drewN | apply Kd.R_drew)); exact HO_8.out) (Kd.R_base ho0) hb); have n2_ := Aside0.mk (Kd.R_lower (Kd.R_new' (Kd.R_new' ho0 (Kd.R_lt (by (with_reducible repeat (first | apply Kd.R_alloc | apply Kd.R_drewN | apply Kd.R_drew)); exact HO_7.out))) (Kd.R_lt (by (with_reducible repeat (first | apply Kd.R_alloc | apply Kd.R_drewN | apply Kd.R_drew)); exact HO_8.out))) (below_size (by repeat (first | (with_reducible first | exact HB.out | apply below_alloc | apply pw_below_drewN | apply below_drew1) | exact HB.out)))); have n3_ := Aside0.mk (below_step (by repeat (first | (with_reducible first | exact HB.out | apply below_alloc | apply pw_below_drewN | apply below_drew1) | exact HB.out)) hb); clear HO_7; clear HO_8; clear HB; have HO_7 := n0_; have HO_8 := n1_; have HO300 := n2_; have HB := n3_; clear n0_ n1_ n2_ n3_; (try clear hb); (try clear hb2); (try clear hk); (try clear hi); (try clear ho0); obtain ⟨Ao25, co25, eo25⟩ := Kd.R_slice HO300.out; subst eo25))
                go_loopg [11, 53] k2 (fun kq v11 v53 w' => ∃ (x11_3 : ByteArray) (x53_3 : Int), v11 = .string x11_3 ∧ v53 = .int .i64 x53_3 ∧ Aside0 (laws_FnManyTogether.l1 kq l0 x8_2 x11_3 t298 (t298.length : Int) x53_3 = some r) ∧ Aside0 (kq ≤ k2) ∧ Aside0 (Kd.R Kd.string 9 w' w.heap.size (fun k_ => some k_ ≠ ((.slice Ao25 t298.length co25) : Value).ownBlock) u8 x8_2) ∧ Aside0 (Kd.R Kd.string 9 w' w.heap.size (fun k_ => some k_ ≠ (u8 : Value).ownBlock) (.slice Ao25 t298.length co25) t298) ∧ Aside0 (Below w.heap.size w w'))
                case atStart => exact ⟨((⟨#[]⟩ : ByteArray)), (0), (by first | rfl | (simp; done) | (simp [*]; done)), (by first | rfl | (simp; done) | (simp [*]; done)), H', ⟨Nat.le_refl _⟩, ⟨by (with_reducible repeat (first | apply Kd.R_alloc | apply Kd.R_drewN | apply Kd.R_drew)); exact Kd.R_mono HO_8.out (fun _ hk => hk.2)⟩, ⟨by (with_reducible repeat (first | apply Kd.R_alloc | apply Kd.R_drewN | apply Kd.R_drew)); exact Kd.R_mono HO300.out (fun _ hk => hk.2)⟩, ⟨by repeat (first | (with_reducible first | exact HB.out | apply below_alloc | apply pw_below_drewN | apply below_drew1) | exact HB.out)⟩⟩
                case round =>
                  clear H'
                  try clear c1
                  try clear c2
                  try clear p2
                  try clear q2
                  try clear hx2
                  try clear c4
                  try clear c6
                  try clear p6
                  try clear c7
                  try clear c8
                  try clear c9
                  try clear c10
                  try clear c10b0
                  try clear c11
                  try clear c11b0
                  try clear c12
                  try clear c12b0
                  try clear c14
                  try clear c15
                  try clear c16
                  try clear hx287_0
                  try clear p2
                  try clear p287
                  try clear q287
                  obtain ⟨x11_3, x53_3, rfl, rfl, HA, HK3, HO_8, HO_51, HB⟩ := hrel
                  cases gk with
                  | zero => exact absurd HA.out (by simp [laws_FnManyTogether.l1])
                  | succ k3 =>
                    have H := HA.out
                    clear HA
                    simp only [laws_FnManyTogether.l1] at H
                    by_cases c26 : x53_3 < (t298.length : Int)
                    · rw [if_pos c26] at H
                      have c26b0 : decide (x53_3 < (t298.length : Int)) = true := decide_eq_true c26
                      clear c26
                      by_cases c27 : 0 ≤ x53_3
                      · rw [if_pos c27] at H
                        have c27b0 : decide (0 ≤ x53_3) = true := decide_eq_true c27
                        clear c27
                        by_cases c28 : x53_3 < (t298.length : Int)
                        · rw [if_pos c28] at H
                          have c28b0 : decide (x53_3 < (t298.length : Int)) = true := decide_eq_true c28
                          clear c28
                          by_cases c29 : x11_3.size + (rdOf ByteArray.empty t298 x53_3).size ≤ 9223372036854775807
                          · rw [if_pos c29] at H
                            have c29b0 := eq_true c29
                            have c29b1 : decide (x11_3.size + (rdOf ByteArray.empty t298 x53_3).size ≤ 9223372036854775807) = true := decide_eq_true c29
                            try have c29b2 : (9223372036854775807 < x11_3.size + (rdOf ByteArray.empty t298 x53_3).size) = False := eq_false (Nat.not_lt.2 c29)
                            have H' := Aside0.mk H
                            clear H
                            have p301 : 0 ≤ (x53_3 : Int) := of_decide_eq_true (by first | (with_reducible assumption) | assumption)
                            have q301 : x53_3 < (t298.length : Int) := of_decide_eq_true (by first | (with_reducible assumption) | assumption)
                            obtain ⟨ad301, e301, hx301_0⟩ := Kd.at_string (Kd.R_reads' HO_51.out).2.2 x53_3 p301 q301
                            cases e301
                            replace p301 := eq_true p301
                            replace q301 := eq_true q301
                            go_wp2
                            go_roundg k3
                            case measure => have := HJ3.out; have := HK2.out; have := HK3.out; omega
                            case rel => exact ⟨(x11_3 ++ (rdOf ByteArray.empty t298 x53_3)), (wrap64 (x53_3 + 1)), (by first | rfl | (simp; done) | (simp [*]; done)), (by first | rfl | (simp; done) | (simp [*]; done)), H', ⟨by have := HJ3.out; have := HK2.out; have := HK3.out; omega⟩, ⟨by (with_reducible repeat (first | apply Kd.R_alloc | apply Kd.R_drewN | apply Kd.R_drew)); exact HO_8.out⟩, ⟨by (with_reducible repeat (first | apply Kd.R_alloc | apply Kd.R_drewN | apply Kd.R_drew)); exact HO_51.out⟩, ⟨by repeat (first | (with_reducible first | exact HB.out | apply below_alloc | apply pw_below_drewN | apply below_drew1) | exact HB.out)⟩⟩
                          · rw [if_neg c29] at H
                            exact absurd H (by simp)
                        · rw [if_neg c28] at H
                          exact absurd H (by simp)
                      · rw [if_neg c27] at H
                        exact absurd H (by simp)
                    · rw [if_neg c26] at H
                      have c26b0 : decide (x53_3 < (t298.length : Int)) = false := decide_eq_false c26
                      clear c26
                      replace H := Option.bind_eq_some_iff.mp H
                      obtain ⟨t302, A300, H⟩ := H
                      replace H : ((laws_pops.f k3 (([t302] : List ByteArray)) (wrap64 ((l0.length : Int) + 1))).bind fun t306 => ((impl_Fragments.f k3 t306).bind fun t309 => ((laws_come.f k3 t306 t309).bind fun bt312 => (if bt312.2 = true then ((laws_texts.f k3 bt312.1 x8_2).bind fun t316 => (some t316)) else (some false))))) = some r := H
                      have A30 := Aside0.mk A300
                      clear A300
                      obtain ⟨y303, hy303⟩ : ∃ y_ : List ByteArray, y_ = (([t302] : List ByteArray)) := ⟨_, rfl⟩
                      replace H : ((laws_pops.f k3 y303 (wrap64 ((l0.length : Int) + 1))).bind fun t306 => ((impl_Fragments.f k3 t306).bind fun t309 => ((laws_come.f k3 t306 t309).bind fun bt312 => (if bt312.2 = true then ((laws_texts.f k3 bt312.1 x8_2).bind fun t316 => (some t316)) else (some false))))) = some r := by first | (rw [hy303]; with_reducible exact H) | (have H2_ := (Option.bind_some _ _).symm.trans H; rw [hy303]; with_reducible exact H2_) | (have H2_ := (Option.bind_some _ _).symm.trans H; with_reducible exact H2_) | with_reducible exact H | (rw [hy303]; exact H) | exact H
                      have Ny303 := Aside0.mk hy303
                      clear hy303
                      replace H := Option.bind_eq_some_iff.mp H
                      obtain ⟨t306, A310, H⟩ := H
                      replace H : ((impl_Fragments.f k3 t306).bind fun t309 => ((laws_come.f k3 t306 t309).bind fun bt312 => (if bt312.2 = true then ((laws_texts.f k3 bt312.1 x8_2).bind fun t316 => (some t316)) else (some false)))) = some r := H
                      have A31 := Aside0.mk A310
                      clear A310
                      replace H := Option.bind_eq_some_iff.mp H
                      obtain ⟨t309, A320, H⟩ := H
                      replace H : ((laws_come.f k3 t306 t309).bind fun bt312 => (if bt312.2 = true then ((laws_texts.f k3 bt312.1 x8_2).bind fun t316 => (some t316)) else (some false))) = some r := H
                      have A32 := Aside0.mk A320
                      clear A320
                      replace H := Option.bind_eq_some_iff.mp H
                      obtain ⟨⟨t312, t313⟩, A330, H⟩ := H
                      replace H : (if t313 = true then ((laws_texts.f k3 t312 x8_2).bind fun t316 => (some t316)) else (some false)) = some r := H
                      have A33 := Aside0.mk A330
                      clear A330
                      by_cases c34 : t313 = true
                      · subst c34
                        have H1 : ((laws_texts.f k3 t312 x8_2).bind fun t316 => (some t316)) = some r := by rw [if_pos rfl] at H; exact H
                        clear H
                        have H := H1
                        clear H1
                        replace H := Option.bind_eq_some_iff.mp H
                        obtain ⟨t316, A350, H⟩ := H
                        replace H : (some t316) = some r := H
                        have A35 := Aside0.mk A350
                        clear A350
                        obtain rfl := Option.some.inj H
                        go_wp2_with (first | ((with_reducible refine gate_callee (f := 10) rfl ?_); refine goesL_ (some 62) rfl rfl Tryd.func10 (by kernel_rfl) rfl #[.int .i64 0, .string x11_3] rfl (by (try simp only [List.map_toArray, List.map_cons, List.map_nil]); first | done | rfl | (simp only [List.length_drop, List.length_take]; rfl)) ?_; (with_reducible refine (laws_record.calls k3 0 x11_3 t302 _ A30.out).mono ?_); rintro e w36 ⟨rfl, hb⟩; refine ⟨_, rfl, ?_⟩; have n0_ := Aside0.mk (Kd.R_below (by (with_reducible repeat (first | apply Kd.R_alloc | apply Kd.R_drewN | apply Kd.R_drew)); exact HO_8.out) hb); have n1_ := Aside0.mk (Kd.R_below (by (with_reducible repeat (first | apply Kd.R_alloc | apply Kd.R_drewN | apply Kd.R_drew)); exact HO_51.out) hb); have n2_ := Aside0.mk (below_step (by repeat (first | (with_reducible first | exact HB.out | apply below_alloc | apply pw_below_drewN | apply below_drew1) | exact HB.out)) hb); clear HO_8; clear HO_51; clear HB; have HO_8 := n0_; have HO_51 := n1_; have HB := n2_; clear n0_ n1_ n2_; (try clear hb); (try clear hb2); (try clear hk); (try clear hi)) | ((with_reducible refine gate_dst (N := 63) rfl ?_); (try (refine gate_guard (by rfl) ?_; dsimp only)); refine Kd.R_lit Kd.string _ 9 ?hg (N := 63) ?hd (xs := ([t302] : List ByteArray)) (inner := [.string t302]) (ok := fun _ => True) (okp := fun _ => True) ?hr ?hp (fun _ hk => hk) trivial (Below.refl _ _) (Nat.le_refl _) (by simp) ?_; (case hd => rfl); (case hg => rfl); (case hr => first | (go_simp; done) | (go_simp; rfl)); (case hp => exact (Reps.one (show Kd.M Kd.string _ _ _ t302 [.string t302] from rfl) (Reps.none _ _))); intro v304 w37 ho38 hb hg_ hnew_; clear hg_ hnew_; (first | rw [← Ny303.out] at ho38 | (simp only [Int.reduceToNat] at ho38; rw [← Ny303.out] at ho38)); have n0_ := Aside0.mk (Kd.R_elder' (by (with_reducible repeat (first | apply Kd.R_alloc | apply Kd.R_drewN | apply Kd.R_drew)); exact HO_8.out) (Kd.R_base ho38) hb); have n1_ := Aside0.mk (Kd.R_elder' (by (with_reducible repeat (first | apply Kd.R_alloc | apply Kd.R_drewN | apply Kd.R_drew)); exact HO_51.out) (Kd.R_base ho38) hb); have n2_ := Aside0.mk (Kd.R_lower (Kd.R_new' (Kd.R_new' ho38 (Kd.R_lt (by (with_reducible repeat (first | apply Kd.R_alloc | apply Kd.R_drewN | apply Kd.R_drew)); exact HO_8.out))) (Kd.R_lt (by (with_reducible repeat (first | apply Kd.R_alloc | apply Kd.R_drewN | apply Kd.R_drew)); exact HO_51.out))) (below_size (by repeat (first | (with_reducible first | exact HB.out | apply below_alloc | apply pw_below_drewN | apply below_drew1) | exact HB.out)))); have n3_ := Aside0.mk (below_step (by repeat (first | (with_reducible first | exact HB.out | apply below_alloc | apply pw_below_drewN | apply below_drew1) | exact HB.out)) hb); clear HO_8; clear HO_51; clear HB; have HO_8 := n0_; have HO_51 := n1_; have HO305 := n2_; have HB := n3_; clear n0_ n1_ n2_ n3_; clear hb ho38; obtain ⟨Ao39, co39, eo39⟩ := Kd.R_slice HO305.out; subst eo39) | ((with_reducible refine gate_callee (f := 11) rfl ?_); refine goesL_ (some 67) rfl rfl Tryd.func11 (by kernel_rfl) rfl #[.slice Ao39 y303.length co39, .int .i64 (wrap64 ((l0.length : Int) + 1))] rfl (by (try simp only [List.map_toArray, List.map_cons, List.map_nil]); first | done | rfl | (simp only [List.length_drop, List.length_take]; rfl)) ?_; (with_reducible refine (laws_pops.calls k3 _ _ y303 (wrap64 ((l0.length : Int) + 1)) t306 _ ?side1 ?side2 A31.out).mono ?_); (case side1 => repeat (first | exact (Kd.R_reads' HO305.out).2.2 | (with_reducible refine Kd.C_alloc ?_ _) | (with_reducible refine Kd.C_drewN ?_ _) | (with_reducible refine Kd.C_drew ?_))); (case side2 => exact (Kd.R_reads' HO305.out).2.1); rintro e w40 ⟨v307, rfl, ho0, hb⟩; refine ⟨_, rfl, ?_⟩; have n0_ := Aside0.mk (Kd.R_below (by (with_reducible repeat (first | apply Kd.R_alloc | apply Kd.R_drewN | apply Kd.R_drew)); exact HO_8.out) hb); have n1_ := Aside0.mk (Kd.R_below (by (with_reducible repeat (first | apply Kd.R_alloc | apply Kd.R_drewN | apply Kd.R_drew)); exact HO_51.out) hb); have n2_ := Aside0.mk (Kd.R_below (by (with_reducible repeat (first | apply Kd.R_alloc | apply Kd.R_drewN | apply Kd.R_drew)); exact HO305.out) hb); have n3_ := Aside0.mk (Kd.R_lower ho0 (below_size (by repeat (first | (with_reducible first | exact HB.out | apply below_alloc | apply pw_below_drewN | apply below_drew1) | exact HB.out)))); have n4_ := Aside0.mk (below_step (by repeat (first | (with_reducible first | exact HB.out | apply below_alloc | apply pw_below_drewN | apply below_drew1) | exact HB.out)) hb); clear HO_8; clear HO_51; clear HO305; clear HB; have HO_8 := n0_; have HO_51 := n1_; have HO305 := n2_; have HO308 := n3_; have HB := n4_; clear n0_ n1_ n2_ n3_ n4_; (try clear hb); (try clear hb2); (try clear hk); (try clear hi); (try clear ho0); obtain ⟨Ao41, co41, eo41⟩ := Kd.R_slice HO308.out; subst eo41) | ((with_reducible refine gate_callee (f := 13) rfl ?_); refine goesL_ (some 71) rfl rfl Tryd.func13 (by kernel_rfl) rfl #[.slice Ao41 t306.length co41] rfl (by (try simp only [List.map_toArray, List.map_cons, List.map_nil]); first | done | rfl | (simp only [List.length_drop, List.length_take]; rfl)) ?_; (with_reducible refine (impl_Fragments.calls k3 _ _ t306 t309 _ ?side1 ?side2 A32.out (HGL.out.below (by repeat (first | (with_reducible first | exact HB.out | apply below_alloc | apply pw_below_drewN | apply below_drew1) | exact HB.out)) HGL.out.lt)).mono ?_); (case side1 => repeat (first | exact (Kd.R_reads' HO308.out).2.2 | (with_reducible refine Kd.C_alloc ?_ _) | (with_reducible refine Kd.C_drewN ?_ _) | (with_reducible refine Kd.C_drew ?_))); (case side2 => exact (Kd.R_reads' HO308.out).2.1); rintro e w42 ⟨v310, rfl, ho0, hb⟩; refine ⟨_, rfl, ?_⟩; have n0_ := Aside0.mk (Kd.R_below (by (with_reducible repeat (first | apply Kd.R_alloc | apply Kd.R_drewN | apply Kd.R_drew)); exact HO_8.out) hb); have n1_ := Aside0.mk (Kd.R_below (by (with_reducible repeat (first | apply Kd.R_alloc | apply Kd.R_drewN | apply Kd.R_drew)); exact HO_51.out) hb); have n2_ := Aside0.mk (Kd.R_below (by (with_reducible repeat (first | apply Kd.R_alloc | apply Kd.R_drewN | apply Kd.R_drew)); exact HO305.out) hb); have n3_ := Aside0.mk (Kd.R_below (by (with_reducible repeat (first | apply Kd.R_alloc | apply Kd.R_drewN | apply Kd.R_drew)); exact HO308.out) hb); have n4_ := Aside0.mk (Kd.R_lower ho0 (below_size (by repeat (first | (with_reducible first | exact HB.out | apply below_alloc | apply pw_below_drewN | apply below_drew1) | exact HB.out)))); have n5_ := Aside0.mk (below_step (by repeat (first | (with_reducible first | exact HB.out | apply below_alloc | apply pw_below_drewN | apply below_drew1) | exact HB.out)) hb); clear HO_8; clear HO_51; clear HO305; clear HO308; clear HB; have HO_8 := n0_; have HO_51 := n1_; have HO305 := n2_; have HO308 := n3_; have HO311 := n4_; have HB := n5_; clear n0_ n1_ n2_ n3_ n4_ n5_; (try clear hb); (try clear hb2); (try clear hk); (try clear hi); (try clear ho0); obtain ⟨Ao43, co43, eo43⟩ := Kd.R_slice HO311.out; subst eo43) | ((with_reducible refine gate_callee (f := 12) rfl ?_); refine goesL_ (some 72) rfl rfl Tryd.func12 (by kernel_rfl) rfl #[.slice Ao41 t306.length co41, .slice Ao43 t309.length co43] rfl (by (try simp only [List.map_toArray, List.map_cons, List.map_nil]); first | done | rfl | (simp only [List.length_drop, List.length_take]; rfl)) ?_; (with_reducible refine (laws_come.calls k3 _ _ t306 _ _ t309 t312 true _ ?side1 ?side2 ?side3 ?side4 A33.out).mono ?_); (case side1 => repeat (first | exact (Kd.R_reads' HO308.out).2.2 | (with_reducible refine Kd.C_alloc ?_ _) | (with_reducible refine Kd.C_drewN ?_ _) | (with_reducible refine Kd.C_drew ?_))); (case side2 => exact (Kd.R_reads' HO308.out).2.1); (case side3 => repeat (first | exact (Kd.R_reads' HO311.out).2.2 | (with_reducible refine Kd.C_alloc ?_ _) | (with_reducible refine Kd.C_drewN ?_ _) | (with_reducible refine Kd.C_drew ?_))); (case side4 => exact (Kd.R_reads' HO311.out).2.1); rintro e w44 ⟨v314, rfl, ho0, hb⟩; refine ⟨_, rfl, ?_⟩; have n0_ := Aside0.mk (Kd.R_elder' (by (with_reducible repeat (first | apply Kd.R_alloc | apply Kd.R_drewN | apply Kd.R_drew)); exact HO_8.out) (Kd.R_base ho0) hb); have n1_ := Aside0.mk (Kd.R_elder' (by (with_reducible repeat (first | apply Kd.R_alloc | apply Kd.R_drewN | apply Kd.R_drew)); exact HO_51.out) (Kd.R_base ho0) hb); have n2_ := Aside0.mk (Kd.R_elder' (by (with_reducible repeat (first | apply Kd.R_alloc | apply Kd.R_drewN | apply Kd.R_drew)); exact HO305.out) (Kd.R_base ho0) hb); have n3_ := Aside0.mk (Kd.R_below (by (with_reducible repeat (first | apply Kd.R_alloc | apply Kd.R_drewN | apply Kd.R_drew)); exact HO308.out) hb); have n4_ := Aside0.mk (Kd.R_below (by (with_reducible repeat (first | apply Kd.R_alloc | apply Kd.R_drewN | apply Kd.R_drew)); exact HO311.out) hb); have n5_ := Aside0.mk (Kd.R_lower (Kd.R_new' (Kd.R_new' (Kd.R_new' ho0 (Kd.R_lt (by (with_reducible repeat (first | apply Kd.R_alloc | apply Kd.R_drewN | apply Kd.R_drew)); exact HO_8.out))) (Kd.R_lt (by (with_reducible repeat (first | apply Kd.R_alloc | apply Kd.R_drewN | apply Kd.R_drew)); exact HO_51.out))) (Kd.R_lt (by (with_reducible repeat (first | apply Kd.R_alloc | apply Kd.R_drewN | apply Kd.R_drew)); exact HO305.out))) (below_size (by repeat (first | (with_reducible first | exact HB.out | apply below_alloc | apply pw_below_drewN | apply below_drew1) | exact HB.out)))); have n6_ := Aside0.mk (below_step (by repeat (first | (with_reducible first | exact HB.out | apply below_alloc | apply pw_below_drewN | apply below_drew1) | exact HB.out)) hb); clear HO_8; clear HO_51; clear HO305; clear HO308; clear HO311; clear HB; have HO_8 := n0_; have HO_51 := n1_; have HO305 := n2_; have HO308 := n3_; have HO311 := n4_; have HO315 := n5_; have HB := n6_; clear n0_ n1_ n2_ n3_ n4_ n5_ n6_; (try clear hb); (try clear hb2); (try clear hk); (try clear hi); (try clear ho0); obtain ⟨Ao45, co45, eo45⟩ := Kd.R_slice HO315.out; subst eo45; obtain ⟨Ao46, co46, eo46⟩ := Kd.R_slice HO_8.out; subst eo46) | (go_at_call 14; (with_reducible refine (laws_texts.calls k3 _ _ t312 _ _ x8_2 t316 _ ?side1 ?side2 ?side3 ?side4 A35.out).mono ?_); (case side1 => repeat (first | exact (Kd.R_reads' HO315.out).2.2 | (with_reducible refine Kd.C_alloc ?_ _) | (with_reducible refine Kd.C_drewN ?_ _) | (with_reducible refine Kd.C_drew ?_))); (case side2 => exact (Kd.R_reads' HO315.out).2.1); (case side3 => repeat (first | exact (Kd.R_reads' HO_8.out).2.2 | (with_reducible refine Kd.C_alloc ?_ _) | (with_reducible refine Kd.C_drewN ?_ _) | (with_reducible refine Kd.C_drew ?_))); (case side4 => exact (Kd.R_reads' HO_8.out).2.1); rintro e w' ⟨rfl, ⟨nd, rfl⟩⟩))
                        go_ret
                        exact ⟨by first | rfl | (simp [errW_none, errW_some] <;> rfl) | (simp [*, errW_none, errW_some] <;> rfl), by repeat (first | (with_reducible first | exact HB.out | apply below_alloc | apply pw_below_drewN | apply below_drew1) | exact HB.out)⟩
                      · replace c34 := Bool.eq_false_iff.mpr c34
                        subst c34
                        have H1 : (some false) = some r := by rw [if_neg (show ¬ (false = true) by decide)] at H; exact H
                        clear H
                        have H := H1
                        clear H1
                        obtain rfl := Option.some.inj H
                        go_wp2_with (first | ((with_reducible refine gate_callee (f := 10) rfl ?_); refine goesL_ (some 62) rfl rfl Tryd.func10 (by kernel_rfl) rfl #[.int .i64 0, .string x11_3] rfl (by (try simp only [List.map_toArray, List.map_cons, List.map_nil]); first | done | rfl | (simp only [List.length_drop, List.length_take]; rfl)) ?_; (with_reducible refine (laws_record.calls k3 0 x11_3 t302 _ A30.out).mono ?_); rintro e w47 ⟨rfl, hb⟩; refine ⟨_, rfl, ?_⟩; have n0_ := Aside0.mk (Kd.R_below (by (with_reducible repeat (first | apply Kd.R_alloc | apply Kd.R_drewN | apply Kd.R_drew)); exact HO_8.out) hb); have n1_ := Aside0.mk (Kd.R_below (by (with_reducible repeat (first | apply Kd.R_alloc | apply Kd.R_drewN | apply Kd.R_drew)); exact HO_51.out) hb); have n2_ := Aside0.mk (below_step (by repeat (first | (with_reducible first | exact HB.out | apply below_alloc | apply pw_below_drewN | apply below_drew1) | exact HB.out)) hb); clear HO_8; clear HO_51; clear HB; have HO_8 := n0_; have HO_51 := n1_; have HB := n2_; clear n0_ n1_ n2_; (try clear hb); (try clear hb2); (try clear hk); (try clear hi)) | ((with_reducible refine gate_dst (N := 63) rfl ?_); (try (refine gate_guard (by rfl) ?_; dsimp only)); refine Kd.R_lit Kd.string _ 9 ?hg (N := 63) ?hd (xs := ([t302] : List ByteArray)) (inner := [.string t302]) (ok := fun _ => True) (okp := fun _ => True) ?hr ?hp (fun _ hk => hk) trivial (Below.refl _ _) (Nat.le_refl _) (by simp) ?_; (case hd => rfl); (case hg => rfl); (case hr => first | (go_simp; done) | (go_simp; rfl)); (case hp => exact (Reps.one (show Kd.M Kd.string _ _ _ t302 [.string t302] from rfl) (Reps.none _ _))); intro v304 w48 ho49 hb hg_ hnew_; clear hg_ hnew_; (first | rw [← Ny303.out] at ho49 | (simp only [Int.reduceToNat] at ho49; rw [← Ny303.out] at ho49)); have n0_ := Aside0.mk (Kd.R_elder' (by (with_reducible repeat (first | apply Kd.R_alloc | apply Kd.R_drewN | apply Kd.R_drew)); exact HO_8.out) (Kd.R_base ho49) hb); have n1_ := Aside0.mk (Kd.R_elder' (by (with_reducible repeat (first | apply Kd.R_alloc | apply Kd.R_drewN | apply Kd.R_drew)); exact HO_51.out) (Kd.R_base ho49) hb); have n2_ := Aside0.mk (Kd.R_lower (Kd.R_new' (Kd.R_new' ho49 (Kd.R_lt (by (with_reducible repeat (first | apply Kd.R_alloc | apply Kd.R_drewN | apply Kd.R_drew)); exact HO_8.out))) (Kd.R_lt (by (with_reducible repeat (first | apply Kd.R_alloc | apply Kd.R_drewN | apply Kd.R_drew)); exact HO_51.out))) (below_size (by repeat (first | (with_reducible first | exact HB.out | apply below_alloc | apply pw_below_drewN | apply below_drew1) | exact HB.out)))); have n3_ := Aside0.mk (below_step (by repeat (first | (with_reducible first | exact HB.out | apply below_alloc | apply pw_below_drewN | apply below_drew1) | exact HB.out)) hb); clear HO_8; clear HO_51; clear HB; have HO_8 := n0_; have HO_51 := n1_; have HO305 := n2_; have HB := n3_; clear n0_ n1_ n2_ n3_; clear hb ho49; obtain ⟨Ao50, co50, eo50⟩ := Kd.R_slice HO305.out; subst eo50) | ((with_reducible refine gate_callee (f := 11) rfl ?_); refine goesL_ (some 67) rfl rfl Tryd.func11 (by kernel_rfl) rfl #[.slice Ao50 y303.length co50, .int .i64 (wrap64 ((l0.length : Int) + 1))] rfl (by (try simp only [List.map_toArray, List.map_cons, List.map_nil]); first | done | rfl | (simp only [List.length_drop, List.length_take]; rfl)) ?_; (with_reducible refine (laws_pops.calls k3 _ _ y303 (wrap64 ((l0.length : Int) + 1)) t306 _ ?side1 ?side2 A31.out).mono ?_); (case side1 => repeat (first | exact (Kd.R_reads' HO305.out).2.2 | (with_reducible refine Kd.C_alloc ?_ _) | (with_reducible refine Kd.C_drewN ?_ _) | (with_reducible refine Kd.C_drew ?_))); (case side2 => exact (Kd.R_reads' HO305.out).2.1); rintro e w51 ⟨v307, rfl, ho0, hb⟩; refine ⟨_, rfl, ?_⟩; have n0_ := Aside0.mk (Kd.R_below (by (with_reducible repeat (first | apply Kd.R_alloc | apply Kd.R_drewN | apply Kd.R_drew)); exact HO_8.out) hb); have n1_ := Aside0.mk (Kd.R_below (by (with_reducible repeat (first | apply Kd.R_alloc | apply Kd.R_drewN | apply Kd.R_drew)); exact HO_51.out) hb); have n2_ := Aside0.mk (Kd.R_below (by (with_reducible repeat (first | apply Kd.R_alloc | apply Kd.R_drewN | apply Kd.R_drew)); exact HO305.out) hb); have n3_ := Aside0.mk (Kd.R_lower ho0 (below_size (by repeat (first | (with_reducible first | exact HB.out | apply below_alloc | apply pw_below_drewN | apply below_drew1) | exact HB.out)))); have n4_ := Aside0.mk (below_step (by repeat (first | (with_reducible first | exact HB.out | apply below_alloc | apply pw_below_drewN | apply below_drew1) | exact HB.out)) hb); clear HO_8; clear HO_51; clear HO305; clear HB; have HO_8 := n0_; have HO_51 := n1_; have HO305 := n2_; have HO308 := n3_; have HB := n4_; clear n0_ n1_ n2_ n3_ n4_; (try clear hb); (try clear hb2); (try clear hk); (try clear hi); (try clear ho0); obtain ⟨Ao52, co52, eo52⟩ := Kd.R_slice HO308.out; subst eo52) | ((with_reducible refine gate_callee (f := 13) rfl ?_); refine goesL_ (some 71) rfl rfl Tryd.func13 (by kernel_rfl) rfl #[.slice Ao52 t306.length co52] rfl (by (try simp only [List.map_toArray, List.map_cons, List.map_nil]); first | done | rfl | (simp only [List.length_drop, List.length_take]; rfl)) ?_; (with_reducible refine (impl_Fragments.calls k3 _ _ t306 t309 _ ?side1 ?side2 A32.out (HGL.out.below (by repeat (first | (with_reducible first | exact HB.out | apply below_alloc | apply pw_below_drewN | apply below_drew1) | exact HB.out)) HGL.out.lt)).mono ?_); (case side1 => repeat (first | exact (Kd.R_reads' HO308.out).2.2 | (with_reducible refine Kd.C_alloc ?_ _) | (with_reducible refine Kd.C_drewN ?_ _) | (with_reducible refine Kd.C_drew ?_))); (case side2 => exact (Kd.R_reads' HO308.out).2.1); rintro e w53 ⟨v310, rfl, ho0, hb⟩; refine ⟨_, rfl, ?_⟩; have n0_ := Aside0.mk (Kd.R_below (by (with_reducible repeat (first | apply Kd.R_alloc | apply Kd.R_drewN | apply Kd.R_drew)); exact HO_8.out) hb); have n1_ := Aside0.mk (Kd.R_below (by (with_reducible repeat (first | apply Kd.R_alloc | apply Kd.R_drewN | apply Kd.R_drew)); exact HO_51.out) hb); have n2_ := Aside0.mk (Kd.R_below (by (with_reducible repeat (first | apply Kd.R_alloc | apply Kd.R_drewN | apply Kd.R_drew)); exact HO305.out) hb); have n3_ := Aside0.mk (Kd.R_below (by (with_reducible repeat (first | apply Kd.R_alloc | apply Kd.R_drewN | apply Kd.R_drew)); exact HO308.out) hb); have n4_ := Aside0.mk (Kd.R_lower ho0 (below_size (by repeat (first | (with_reducible first | exact HB.out | apply below_alloc | apply pw_below_drewN | apply below_drew1) | exact HB.out)))); have n5_ := Aside0.mk (below_step (by repeat (first | (with_reducible first | exact HB.out | apply below_alloc | apply pw_below_drewN | apply below_drew1) | exact HB.out)) hb); clear HO_8; clear HO_51; clear HO305; clear HO308; clear HB; have HO_8 := n0_; have HO_51 := n1_; have HO305 := n2_; have HO308 := n3_; have HO311 := n4_; have HB := n5_; clear n0_ n1_ n2_ n3_ n4_ n5_; (try clear hb); (try clear hb2); (try clear hk); (try clear hi); (try clear ho0); obtain ⟨Ao54, co54, eo54⟩ := Kd.R_slice HO311.out; subst eo54) | ((with_reducible refine gate_callee (f := 12) rfl ?_); refine goesL_ (some 72) rfl rfl Tryd.func12 (by kernel_rfl) rfl #[.slice Ao52 t306.length co52, .slice Ao54 t309.length co54] rfl (by (try simp only [List.map_toArray, List.map_cons, List.map_nil]); first | done | rfl | (simp only [List.length_drop, List.length_take]; rfl)) ?_; (with_reducible refine (laws_come.calls k3 _ _ t306 _ _ t309 t312 false _ ?side1 ?side2 ?side3 ?side4 A33.out).mono ?_); (case side1 => repeat (first | exact (Kd.R_reads' HO308.out).2.2 | (with_reducible refine Kd.C_alloc ?_ _) | (with_reducible refine Kd.C_drewN ?_ _) | (with_reducible refine Kd.C_drew ?_))); (case side2 => exact (Kd.R_reads' HO308.out).2.1); (case side3 => repeat (first | exact (Kd.R_reads' HO311.out).2.2 | (with_reducible refine Kd.C_alloc ?_ _) | (with_reducible refine Kd.C_drewN ?_ _) | (with_reducible refine Kd.C_drew ?_))); (case side4 => exact (Kd.R_reads' HO311.out).2.1); rintro e w55 ⟨v314, rfl, ho0, hb⟩; refine ⟨_, rfl, ?_⟩; have n0_ := Aside0.mk (Kd.R_elder' (by (with_reducible repeat (first | apply Kd.R_alloc | apply Kd.R_drewN | apply Kd.R_drew)); exact HO_8.out) (Kd.R_base ho0) hb); have n1_ := Aside0.mk (Kd.R_elder' (by (with_reducible repeat (first | apply Kd.R_alloc | apply Kd.R_drewN | apply Kd.R_drew)); exact HO_51.out) (Kd.R_base ho0) hb); have n2_ := Aside0.mk (Kd.R_elder' (by (with_reducible repeat (first | apply Kd.R_alloc | apply Kd.R_drewN | apply Kd.R_drew)); exact HO305.out) (Kd.R_base ho0) hb); have n3_ := Aside0.mk (Kd.R_below (by (with_reducible repeat (first | apply Kd.R_alloc | apply Kd.R_drewN | apply Kd.R_drew)); exact HO308.out) hb); have n4_ := Aside0.mk (Kd.R_below (by (with_reducible repeat (first | apply Kd.R_alloc | apply Kd.R_drewN | apply Kd.R_drew)); exact HO311.out) hb); have n5_ := Aside0.mk (Kd.R_lower (Kd.R_new' (Kd.R_new' (Kd.R_new' ho0 (Kd.R_lt (by (with_reducible repeat (first | apply Kd.R_alloc | apply Kd.R_drewN | apply Kd.R_drew)); exact HO_8.out))) (Kd.R_lt (by (with_reducible repeat (first | apply Kd.R_alloc | apply Kd.R_drewN | apply Kd.R_drew)); exact HO_51.out))) (Kd.R_lt (by (with_reducible repeat (first | apply Kd.R_alloc | apply Kd.R_drewN | apply Kd.R_drew)); exact HO305.out))) (below_size (by repeat (first | (with_reducible first | exact HB.out | apply below_alloc | apply pw_below_drewN | apply below_drew1) | exact HB.out)))); have n6_ := Aside0.mk (below_step (by repeat (first | (with_reducible first | exact HB.out | apply below_alloc | apply pw_below_drewN | apply below_drew1) | exact HB.out)) hb); clear HO_8; clear HO_51; clear HO305; clear HO308; clear HO311; clear HB; have HO_8 := n0_; have HO_51 := n1_; have HO305 := n2_; have HO308 := n3_; have HO311 := n4_; have HO315 := n5_; have HB := n6_; clear n0_ n1_ n2_ n3_ n4_ n5_ n6_; (try clear hb); (try clear hb2); (try clear hk); (try clear hi); (try clear ho0)))
                        go_ret
                        exact ⟨by first | rfl | (simp [errW_none, errW_some] <;> rfl) | (simp [*, errW_none, errW_some] <;> rfl), by repeat (first | (with_reducible first | exact HB.out | apply below_alloc | apply pw_below_drewN | apply below_drew1) | exact HB.out)⟩
        · replace c9 := Bool.eq_false_iff.mpr c9
          subst c9
          have H1 : (some true) = some r := by rw [if_neg (show ¬ (false = true) by decide)] at H; exact H
          clear H
          have H := H1
          clear H1
          obtain rfl := Option.some.inj H
          go_wp2_with (first | ((with_reducible refine gate_callee (f := 7) rfl ?_); refine goesL_ (some 27) rfl rfl Tryd.func7 (by kernel_rfl) rfl #[.slice A0 l0.length c0, .int .i64 a1] rfl (by (try simp only [List.map_toArray, List.map_cons, List.map_nil]); first | done | rfl | (simp only [List.length_drop, List.length_take]; rfl)) ?_; (with_reducible refine (laws_light.calls kj3 _ _ l0 a1 false _ ?side1 ?side2 A8.out).mono ?_); (case side1 => repeat (first | exact (Kd.C_below HR0.out HB.out) | (with_reducible refine Kd.C_alloc ?_ _) | (with_reducible refine Kd.C_drewN ?_ _) | (with_reducible refine Kd.C_drew ?_))); (case side2 => exact HC0.out); rintro e w' ⟨rfl, ⟨nd, rfl⟩⟩; refine ⟨_, rfl, ?_⟩))
          go_ret
          exact ⟨by first | rfl | (simp [errW_none, errW_some] <;> rfl) | (simp [*, errW_none, errW_some] <;> rfl), by repeat (first | (with_reducible first | exact HB.out | apply below_alloc | apply pw_below_drewN | apply below_drew1) | exact HB.out)⟩

end Go.Proofs.YtblmbbllfiigmaaDoor.PAll
