-- Printed by a program, out of the translation.
import Derived.Test.YtblmbbllfiigmaaDoorPAllx0
import Derived.Test.YtblmbbllfiigmaaDoorPAllx1
import Derived.Test.YtblmbbllfiigmaaDoorPAllx3
import Derived.Test.YtblmbbllfiigmaaDoorPAllx4
import Derived.Test.YtblmbbllfiigmaaDoorMone
namespace Go.Proofs.YtblmbbllfiigmaaDoor.PAll
open Go.RowKit Go.Proofs.YtblmbbllfiigmaaDoorW.PrintWords Go.Proofs.YtblmbbllfiigmaaDoorW.PrintLast Go.Proofs.YtblmbbllfiigmaaDoorW.PrintMore
attribute [local go_sem] max2_int min2_int max_two min_two max_three min_three max_four min_four   -- for this text's walks alone
set_option linter.unusedVariables false
set_option linter.unusedSimpArgs false

/-! ### laws_FnDoubledPieces: function 3 -/
noncomputable section
mutual
def laws_FnDoubledPieces.j0 : Nat → ByteArray → Int → List Int → Bool → Option (Bool)
  | 0, _, _, _, _ => none
  | k + 1, x0, x1, x2, x19 => if x19 = true then (some true) else ((laws_light.f k (([x0] : List ByteArray)) x1).bind fun t250 => (if t250 = true then ((laws_cutting.f k 11 0 x0 x1).bind fun t251 => ((some (([] : List ByteArray) : List ByteArray)).bind fun y254 => (if y254.length + t251.length < 8796093022208 then ((some (y254 ++ t251 : List ByteArray)).bind fun y257 => (if y257.length + t251.length < 8796093022208 then ((laws_shuffle.f k (y257 ++ t251) x2).bind fun t263 => (laws_FnDoubledPieces.l0 k x0 t263 (t263.length : Int) 0)) else (none))) else (none)))) else (some true)))
def laws_FnDoubledPieces.l0 : Nat → ByteArray → List ByteArray → Int → Int → Option (Bool)
  | 0, _, _, _, _ => none
  | k + 1, x0, x7, x36, x37 => if x37 < x36 then (if 0 ≤ x37 then (if x37 < (x7.length : Int) then ((laws_record.f k x37 (rdOf ByteArray.empty x7 x37)).bind fun t267 => (laws_FnDoubledPieces.l0 k x0 (x7.set (x37 : Int).toNat t267) x36 (wrap64 (x37 + 1)))) else (none)) else (none)) else ((laws_pops.f k x7 2).bind fun t269 => ((impl_Fragments.f k t269).bind fun t272 => ((laws_come.f k t269 t272).bind fun bt275 => (if bt275.2 = true then ((laws_whole.f k 11 0 x0).bind fun t279 => ((laws_texts.f k bt275.1 (([t279] : List ByteArray))).bind fun t283 => (some t283))) else (some false)))))
end
def laws_FnDoubledPieces.f (k : Nat) (a0 : ByteArray) (a1 : Int) (l2 : List Int) : Option (Bool) := if (a0.size : Int) > 2147483647 then (laws_FnDoubledPieces.j0 k a0 a1 l2 true) else (laws_FnDoubledPieces.j0 k a0 a1 l2 (decide ((l2.length : Int) > 2147483647)))
end
theorem laws_FnDoubledPieces.mono_l : ∀ k, (∀ y0 y1 y2 y3, LeO (laws_FnDoubledPieces.j0 k y0 y1 y2 y3) (laws_FnDoubledPieces.j0 (k + 1) y0 y1 y2 y3)) ∧ (∀ y0 y1 y2 y3, LeO (laws_FnDoubledPieces.l0 k y0 y1 y2 y3) (laws_FnDoubledPieces.l0 (k + 1) y0 y1 y2 y3))
  | 0 => ⟨fun _ _ _ _ r h => by simp [laws_FnDoubledPieces.j0] at h, fun _ _ _ _ r h => by simp [laws_FnDoubledPieces.l0] at h⟩
  | k + 1 => by
    obtain ⟨ih0, ih1⟩ := laws_FnDoubledPieces.mono_l k
    refine ⟨?_, ?_⟩
    · intro y0 y1 y2 y3
      unfold laws_FnDoubledPieces.j0
      repeat' first
      | (with_reducible exact ih0 _ _ _ _)
      | (with_reducible exact ih1 _ _ _ _)
      | (with_reducible exact impl_Fragments.mono _ _)
      | (with_reducible exact laws_come.mono _ _ _)
      | (with_reducible exact laws_cutting.mono _ _ _ _ _)
      | (with_reducible exact laws_light.mono _ _ _)
      | (with_reducible exact laws_pops.mono _ _ _)
      | (with_reducible exact laws_record.mono _ _ _)
      | (with_reducible exact laws_shuffle.mono _ _ _)
      | (with_reducible exact laws_texts.mono _ _ _)
      | (with_reducible exact laws_whole.mono _ _ _ _)
      | (with_reducible exact LeO.refl _)
      | (with_reducible exact LeO.none _)
      | (with_reducible refine LeO.ite ?_ ?_)
      | (with_reducible refine LeO.bind ?_ (fun _ => ?_))
      | exact ih0 _ _ _ _
      | exact ih1 _ _ _ _
      | exact impl_Fragments.mono _ _
      | exact laws_come.mono _ _ _
      | exact laws_cutting.mono _ _ _ _ _
      | exact laws_light.mono _ _ _
      | exact laws_pops.mono _ _ _
      | exact laws_record.mono _ _ _
      | exact laws_shuffle.mono _ _ _
      | exact laws_texts.mono _ _ _
      | exact laws_whole.mono _ _ _ _
      | exact LeO.none _
      | refine LeO.ite ?_ ?_
      | refine LeO.bind ?_ (fun _ => ?_)
    · intro y0 y1 y2 y3
      unfold laws_FnDoubledPieces.l0
      repeat' first
      | (with_reducible exact ih0 _ _ _ _)
      | (with_reducible exact ih1 _ _ _ _)
      | (with_reducible exact impl_Fragments.mono _ _)
      | (with_reducible exact laws_come.mono _ _ _)
      | (with_reducible exact laws_cutting.mono _ _ _ _ _)
      | (with_reducible exact laws_light.mono _ _ _)
      | (with_reducible exact laws_pops.mono _ _ _)
      | (with_reducible exact laws_record.mono _ _ _)
      | (with_reducible exact laws_shuffle.mono _ _ _)
      | (with_reducible exact laws_texts.mono _ _ _)
      | (with_reducible exact laws_whole.mono _ _ _ _)
      | (with_reducible exact LeO.refl _)
      | (with_reducible exact LeO.none _)
      | (with_reducible refine LeO.ite ?_ ?_)
      | (with_reducible refine LeO.bind ?_ (fun _ => ?_))
      | exact ih0 _ _ _ _
      | exact ih1 _ _ _ _
      | exact impl_Fragments.mono _ _
      | exact laws_come.mono _ _ _
      | exact laws_cutting.mono _ _ _ _ _
      | exact laws_light.mono _ _ _
      | exact laws_pops.mono _ _ _
      | exact laws_record.mono _ _ _
      | exact laws_shuffle.mono _ _ _
      | exact laws_texts.mono _ _ _
      | exact laws_whole.mono _ _ _ _
      | exact LeO.none _
      | refine LeO.ite ?_ ?_
      | refine LeO.bind ?_ (fun _ => ?_)
theorem laws_FnDoubledPieces.mono : ∀ a0 a1 a2 k, LeO (laws_FnDoubledPieces.f k a0 a1 a2) (laws_FnDoubledPieces.f (k + 1) a0 a1 a2) := by
  intro a0 a1 a2 k
  obtain ⟨ih0, ih1⟩ := laws_FnDoubledPieces.mono_l k
  unfold laws_FnDoubledPieces.f
  repeat' first
      | (with_reducible exact ih0 _ _ _ _)
      | (with_reducible exact ih1 _ _ _ _)
      | (with_reducible exact impl_Fragments.mono _ _)
      | (with_reducible exact laws_come.mono _ _ _)
      | (with_reducible exact laws_cutting.mono _ _ _ _ _)
      | (with_reducible exact laws_light.mono _ _ _)
      | (with_reducible exact laws_pops.mono _ _ _)
      | (with_reducible exact laws_record.mono _ _ _)
      | (with_reducible exact laws_shuffle.mono _ _ _)
      | (with_reducible exact laws_texts.mono _ _ _)
      | (with_reducible exact laws_whole.mono _ _ _ _)
      | (with_reducible exact LeO.refl _)
      | (with_reducible exact LeO.none _)
      | (with_reducible refine LeO.ite ?_ ?_)
      | (with_reducible refine LeO.bind ?_ (fun _ => ?_))
      | exact ih0 _ _ _ _
      | exact ih1 _ _ _ _
      | exact impl_Fragments.mono _ _
      | exact laws_come.mono _ _ _
      | exact laws_cutting.mono _ _ _ _ _
      | exact laws_light.mono _ _ _
      | exact laws_pops.mono _ _ _
      | exact laws_record.mono _ _ _
      | exact laws_shuffle.mono _ _ _
      | exact laws_texts.mono _ _ _
      | exact laws_whole.mono _ _ _ _
      | exact LeO.none _
      | refine LeO.ite ?_ ?_
      | refine LeO.bind ?_ (fun _ => ?_)
set_option maxHeartbeats 8000000 in
set_option maxRecDepth 100000 in
theorem laws_FnDoubledPieces.calls (k : Nat) (a0 : ByteArray) (a1 : Int) (A2 : Option Addr) (c2 : Nat) (l2 : List Int) (r : Bool) (w : World) (hr2 : Kd.C (Kd.int .i64) w A2 l2.length l2) (hc2 : l2.length ≤ c2) (h : laws_FnDoubledPieces.f k a0 a1 l2 = some r) (hgl : GL w) :
    Calls Tryd.prog 3 #[.string a0, .int .i64 a1, .slice A2 l2.length c2] w fun e w' => e = .returned (.bool r) ∧ Below w.heap.size w w' := by
  have HGL := Aside0.mk hgl
  clear hgl
  have HR2 := Aside0.mk hr2
  have HC2 := Aside0.mk hc2
  clear hr2 hc2
  have HB := Aside0.mk (Below.refl w.heap.size w)
  have H : (if (a0.size : Int) > 2147483647 then (laws_FnDoubledPieces.j0 k a0 a1 l2 true) else (laws_FnDoubledPieces.j0 k a0 a1 l2 (decide ((l2.length : Int) > 2147483647)))) = some r := h
  clear h
  have HC4 := Aside0.mk H
  clear H
  go_enter Tryd.func3, Tryd.ntmps3
  go_upto_region 1 with (fail)
  go_cut [19] (fun v19 wc => ∃ (kq : Nat) (x19_3 : Bool), v19 = .bool x19_3 ∧ Aside0 (laws_FnDoubledPieces.j0 kq a0 a1 l2 x19_3 = some r) ∧ Aside0 (kq ≤ k) ∧ Aside0 (Below w.heap.size w wc))
  case first =>
    have H := HC4.out
    clear HC4
    by_cases c5 : (a0.size : Int) > 2147483647
    · rw [if_pos c5] at H
      have c5b0 : decide (2147483647 < (a0.size : Int)) = true := decide_eq_true c5
      have c5b1 : decide (2147483647 < a0.size) = true := decide_eq_true (by omega)
      clear c5
      (first | rw [c5b0] | (simp only [i64_w, i32_w]; rw [c5b0]) | skip)
      have H' := Aside0.mk H
      clear H
      go_wp2
      go_meet
      case rel => exact ⟨_, (true), (by first | rfl | (simp; done) | (simp [*]; done)), H', ⟨by first | omega | exact Nat.le_refl _⟩, ⟨by repeat (first | (with_reducible first | exact HB.out | apply below_alloc | apply pw_below_drewN | apply below_drew1) | exact HB.out)⟩⟩
    · rw [if_neg c5] at H
      have c5b0 : decide (2147483647 < (a0.size : Int)) = false := decide_eq_false c5
      have c5b1 : decide (2147483647 < a0.size) = false := decide_eq_false (by omega)
      clear c5
      (first | rw [c5b0] | (simp only [i64_w, i32_w]; rw [c5b0]) | skip)
      have H' := Aside0.mk H
      clear H
      go_wp2
      go_meet
      case rel => exact ⟨_, (decide ((l2.length : Int) > 2147483647)), (by first | rfl | (simp; done) | (simp [*]; done)), H', ⟨by first | omega | exact Nat.le_refl _⟩, ⟨by repeat (first | (with_reducible first | exact HB.out | apply below_alloc | apply pw_below_drewN | apply below_drew1) | exact HB.out)⟩⟩
  case rest =>
    clear HC4
    try clear c2
    try clear p2
    try clear c3
    try clear c5
    try clear c5b0
    try clear c5b1
    obtain ⟨kq, x19_3, rfl, HA, HJ3, HB⟩ := hcut
    cases kq with
    | zero => exact absurd HA.out (by simp [laws_FnDoubledPieces.j0])
    | succ kj3 =>
      have H := HA.out
      clear HA
      simp only [laws_FnDoubledPieces.j0] at H
      by_cases c6 : x19_3 = true
      · subst c6
        have H1 : (some true) = some r := by rw [if_pos rfl] at H; exact H
        clear H
        have H := H1
        clear H1
        obtain rfl := Option.some.inj H
        go_wp2
        go_ret
        exact ⟨by first | rfl | (simp [errW_none, errW_some] <;> rfl) | (simp [*, errW_none, errW_some] <;> rfl), by repeat (first | (with_reducible first | exact HB.out | apply below_alloc | apply pw_below_drewN | apply below_drew1) | exact HB.out)⟩
      · replace c6 := Bool.eq_false_iff.mpr c6
        subst c6
        have H1 : ((laws_light.f kj3 (([a0] : List ByteArray)) a1).bind fun t250 => (if t250 = true then ((laws_cutting.f kj3 11 0 a0 a1).bind fun t251 => ((some (([] : List ByteArray) : List ByteArray)).bind fun y254 => (if y254.length + t251.length < 8796093022208 then ((some (y254 ++ t251 : List ByteArray)).bind fun y257 => (if y257.length + t251.length < 8796093022208 then ((laws_shuffle.f kj3 (y257 ++ t251) l2).bind fun t263 => (laws_FnDoubledPieces.l0 kj3 a0 t263 (t263.length : Int) 0)) else (none))) else (none)))) else (some true))) = some r := by rw [if_neg (show ¬ (false = true) by decide)] at H; exact H
        clear H
        have H := H1
        clear H1
        obtain ⟨y247, hy247⟩ : ∃ y_ : List ByteArray, y_ = (([a0] : List ByteArray)) := ⟨_, rfl⟩
        replace H : ((laws_light.f kj3 y247 a1).bind fun t250 => (if t250 = true then ((laws_cutting.f kj3 11 0 a0 a1).bind fun t251 => ((some (([] : List ByteArray) : List ByteArray)).bind fun y254 => (if y254.length + t251.length < 8796093022208 then ((some (y254 ++ t251 : List ByteArray)).bind fun y257 => (if y257.length + t251.length < 8796093022208 then ((laws_shuffle.f kj3 (y257 ++ t251) l2).bind fun t263 => (laws_FnDoubledPieces.l0 kj3 a0 t263 (t263.length : Int) 0)) else (none))) else (none)))) else (some true))) = some r := by first | (rw [hy247]; with_reducible exact H) | (have H2_ := (Option.bind_some _ _).symm.trans H; rw [hy247]; with_reducible exact H2_) | (have H2_ := (Option.bind_some _ _).symm.trans H; with_reducible exact H2_) | with_reducible exact H | (rw [hy247]; exact H) | exact H
        have Ny247 := Aside0.mk hy247
        clear hy247
        replace H := Option.bind_eq_some_iff.mp H
        obtain ⟨t250, A70, H⟩ := H
        replace H : (if t250 = true then ((laws_cutting.f kj3 11 0 a0 a1).bind fun t251 => ((some (([] : List ByteArray) : List ByteArray)).bind fun y254 => (if y254.length + t251.length < 8796093022208 then ((some (y254 ++ t251 : List ByteArray)).bind fun y257 => (if y257.length + t251.length < 8796093022208 then ((laws_shuffle.f kj3 (y257 ++ t251) l2).bind fun t263 => (laws_FnDoubledPieces.l0 kj3 a0 t263 (t263.length : Int) 0)) else (none))) else (none)))) else (some true)) = some r := H
        have A7 := Aside0.mk A70
        clear A70
        by_cases c8 : t250 = true
        · subst c8
          have H1 : ((laws_cutting.f kj3 11 0 a0 a1).bind fun t251 => ((some (([] : List ByteArray) : List ByteArray)).bind fun y254 => (if y254.length + t251.length < 8796093022208 then ((some (y254 ++ t251 : List ByteArray)).bind fun y257 => (if y257.length + t251.length < 8796093022208 then ((laws_shuffle.f kj3 (y257 ++ t251) l2).bind fun t263 => (laws_FnDoubledPieces.l0 kj3 a0 t263 (t263.length : Int) 0)) else (none))) else (none)))) = some r := by rw [if_pos rfl] at H; exact H
          clear H
          have H := H1
          clear H1
          replace H := Option.bind_eq_some_iff.mp H
          obtain ⟨t251, A90, H⟩ := H
          replace H : ((some (([] : List ByteArray) : List ByteArray)).bind fun y254 => (if y254.length + t251.length < 8796093022208 then ((some (y254 ++ t251 : List ByteArray)).bind fun y257 => (if y257.length + t251.length < 8796093022208 then ((laws_shuffle.f kj3 (y257 ++ t251) l2).bind fun t263 => (laws_FnDoubledPieces.l0 kj3 a0 t263 (t263.length : Int) 0)) else (none))) else (none))) = some r := H
          have A9 := Aside0.mk A90
          clear A90
          obtain ⟨y254, hy254⟩ : ∃ y_ : List ByteArray, y_ = (([] : List ByteArray)) := ⟨_, rfl⟩
          replace H : (if y254.length + t251.length < 8796093022208 then ((some (y254 ++ t251 : List ByteArray)).bind fun y257 => (if y257.length + t251.length < 8796093022208 then ((laws_shuffle.f kj3 (y257 ++ t251) l2).bind fun t263 => (laws_FnDoubledPieces.l0 kj3 a0 t263 (t263.length : Int) 0)) else (none))) else (none)) = some r := by first | (rw [hy254]; with_reducible exact H) | (have H2_ := (Option.bind_some _ _).symm.trans H; rw [hy254]; with_reducible exact H2_) | (have H2_ := (Option.bind_some _ _).symm.trans H; with_reducible exact H2_) | with_reducible exact H | (rw [hy254]; exact H) | exact H
          have Ny254 := Aside0.mk hy254
          clear hy254
          by_cases c10 : y254.length + t251.length < 8796093022208
          · rw [if_pos c10] at H
            have LMc10 := Aside0.mk c10
            clear c10
            obtain ⟨y257, hy257⟩ : ∃ y_ : List ByteArray, y_ = (y254 ++ t251) := ⟨_, rfl⟩
            replace H : (if y257.length + t251.length < 8796093022208 then ((laws_shuffle.f kj3 (y257 ++ t251) l2).bind fun t263 => (laws_FnDoubledPieces.l0 kj3 a0 t263 (t263.length : Int) 0)) else (none)) = some r := by first | (rw [hy257]; with_reducible exact H) | (have H2_ := (Option.bind_some _ _).symm.trans H; rw [hy257]; with_reducible exact H2_) | (have H2_ := (Option.bind_some _ _).symm.trans H; with_reducible exact H2_) | with_reducible exact H | (rw [hy257]; exact H) | exact H
            have Ny257 := Aside0.mk hy257
            clear hy257
            by_cases c11 : y257.length + t251.length < 8796093022208
            · rw [if_pos c11] at H
              have LMc11 := Aside0.mk c11
              clear c11
              obtain ⟨y260, hy260⟩ : ∃ y_ : List ByteArray, y_ = (y257 ++ t251) := ⟨_, rfl⟩
              replace H : ((laws_shuffle.f kj3 y260 l2).bind fun t263 => (laws_FnDoubledPieces.l0 kj3 a0 t263 (t263.length : Int) 0)) = some r := by first | (rw [hy260]; with_reducible exact H) | (have H2_ := (Option.bind_some _ _).symm.trans H; rw [hy260]; with_reducible exact H2_) | (have H2_ := (Option.bind_some _ _).symm.trans H; with_reducible exact H2_) | with_reducible exact H | (rw [hy260]; exact H) | exact H
              have Ny260 := Aside0.mk hy260
              clear hy260
              replace H := Option.bind_eq_some_iff.mp H
              obtain ⟨t263, A120, H⟩ := H
              replace H : (laws_FnDoubledPieces.l0 kj3 a0 t263 (t263.length : Int) 0) = some r := H
              have A12 := Aside0.mk A120
              clear A120
              have H' := Aside0.mk H
              clear H
              go_wp2_with (first | ((with_reducible refine gate_dst (N := 21) rfl ?_); (try (refine gate_guard (by rfl) ?_; dsimp only)); refine Kd.R_lit Kd.string _ 9 ?hg (N := 21) ?hd (xs := ([a0] : List ByteArray)) (inner := [.string a0]) (ok := fun _ => True) (okp := fun _ => True) ?hr ?hp (fun _ hk => hk) trivial (Below.refl _ _) (Nat.le_refl _) (by simp) ?_; (case hd => rfl); (case hg => rfl); (case hr => first | (go_simp; done) | (go_simp; rfl)); (case hp => exact (Reps.one (show Kd.M Kd.string _ _ _ a0 [.string a0] from rfl) (Reps.none _ _))); intro v248 w13 ho14 hb hg_ hnew_; clear hg_ hnew_; (first | rw [← Ny247.out] at ho14 | (simp only [Int.reduceToNat] at ho14; rw [← Ny247.out] at ho14)); have n0_ := Aside0.mk (Kd.R_lower ho14 (below_size (by repeat (first | (with_reducible first | exact HB.out | apply below_alloc | apply pw_below_drewN | apply below_drew1) | exact HB.out)))); have n1_ := Aside0.mk (below_step (by repeat (first | (with_reducible first | exact HB.out | apply below_alloc | apply pw_below_drewN | apply below_drew1) | exact HB.out)) hb); clear HB; have HO249 := n0_; have HB := n1_; clear n0_ n1_; clear hb ho14; obtain ⟨Ao15, co15, eo15⟩ := Kd.R_slice HO249.out; subst eo15) | ((with_reducible refine gate_callee (f := 7) rfl ?_); refine goesL_ (some 23) rfl rfl Tryd.func7 (by kernel_rfl) rfl #[.slice Ao15 y247.length co15, .int .i64 a1] rfl (by (try simp only [List.map_toArray, List.map_cons, List.map_nil]); first | done | rfl | (simp only [List.length_drop, List.length_take]; rfl)) ?_; (with_reducible refine (laws_light.calls kj3 _ _ y247 a1 true _ ?side1 ?side2 A7.out).mono ?_); (case side1 => repeat (first | exact (Kd.R_reads' HO249.out).2.2 | (with_reducible refine Kd.C_alloc ?_ _) | (with_reducible refine Kd.C_drewN ?_ _) | (with_reducible refine Kd.C_drew ?_))); (case side2 => exact (Kd.R_reads' HO249.out).2.1); rintro e w' ⟨rfl, ⟨nd, rfl⟩⟩; refine ⟨_, rfl, ?_⟩) | ((with_reducible refine gate_callee (f := 8) rfl ?_); refine goesL_ (some 27) rfl rfl Tryd.func8 (by kernel_rfl) rfl #[.int .u8 11, .int .i64 0, .string a0, .int .i64 a1] rfl (by (try simp only [List.map_toArray, List.map_cons, List.map_nil]); first | done | rfl | (simp only [List.length_drop, List.length_take]; rfl)) ?_; (with_reducible refine (laws_cutting.calls kj3 11 0 a0 a1 t251 _ A9.out).mono ?_); rintro e w16 ⟨v252, rfl, ho0, hb⟩; refine ⟨_, rfl, ?_⟩; have n0_ := Aside0.mk (Kd.R_elder' (by (with_reducible repeat (first | apply Kd.R_alloc | apply Kd.R_drewN | apply Kd.R_drew)); exact HO249.out) (Kd.R_base ho0) hb); have n1_ := Aside0.mk (Kd.R_lower (Kd.R_new' ho0 (Kd.R_lt (by (with_reducible repeat (first | apply Kd.R_alloc | apply Kd.R_drewN | apply Kd.R_drew)); exact HO249.out))) (below_size (by repeat (first | (with_reducible first | exact HB.out | apply below_alloc | apply pw_below_drewN | apply below_drew1) | exact HB.out)))); have n2_ := Aside0.mk (below_step (by repeat (first | (with_reducible first | exact HB.out | apply below_alloc | apply pw_below_drewN | apply below_drew1) | exact HB.out)) hb); clear HO249; clear HB; have HO249 := n0_; have HO253 := n1_; have HB := n2_; clear n0_ n1_ n2_; (try clear hb); (try clear hb2); (try clear hk); (try clear hi); (try clear ho0)) | ((with_reducible refine gate_dst (N := 28) rfl ?_); (try (refine gate_guard (by rfl) ?_; dsimp only)); refine Kd.R_lit Kd.string _ 9 ?hg (N := 28) ?hd (xs := ([] : List ByteArray)) (inner := []) (ok := fun _ => True) (okp := fun _ => True) ?hr ?hp (fun _ hk => hk) trivial (Below.refl _ _) (Nat.le_refl _) (by simp) ?_; (case hd => rfl); (case hg => rfl); (case hr => first | (go_simp; done) | (go_simp; rfl)); (case hp => exact (Reps.none _ _)); intro v255 w17 ho18 hb hg_ hnew_; clear hg_ hnew_; (first | rw [← Ny254.out] at ho18 | (simp only [Int.reduceToNat] at ho18; rw [← Ny254.out] at ho18)); have n0_ := Aside0.mk (Kd.R_elder' (by (with_reducible repeat (first | apply Kd.R_alloc | apply Kd.R_drewN | apply Kd.R_drew)); exact HO249.out) (Kd.R_base ho18) hb); have n1_ := Aside0.mk (Kd.R_elder' (by (with_reducible repeat (first | apply Kd.R_alloc | apply Kd.R_drewN | apply Kd.R_drew)); exact HO253.out) (Kd.R_base ho18) hb); have n2_ := Aside0.mk (Kd.R_lower (Kd.R_new' (Kd.R_new' ho18 (Kd.R_lt (by (with_reducible repeat (first | apply Kd.R_alloc | apply Kd.R_drewN | apply Kd.R_drew)); exact HO249.out))) (Kd.R_lt (by (with_reducible repeat (first | apply Kd.R_alloc | apply Kd.R_drewN | apply Kd.R_drew)); exact HO253.out))) (below_size (by repeat (first | (with_reducible first | exact HB.out | apply below_alloc | apply pw_below_drewN | apply below_drew1) | exact HB.out)))); have n3_ := Aside0.mk (below_step (by repeat (first | (with_reducible first | exact HB.out | apply below_alloc | apply pw_below_drewN | apply below_drew1) | exact HB.out)) hb); clear HO249; clear HO253; clear HB; have HO249 := n0_; have HO253 := n1_; have HO256 := n2_; have HB := n3_; clear n0_ n1_ n2_ n3_; clear hb ho18; obtain ⟨Ao20, co20, eo20⟩ := Kd.R_slice HO253.out; subst eo20) | ((with_reducible refine gate_builtin (b := .append) (xs := #[.tmp 28, .tmp 29]) rfl ?_); (try (refine gate_guard (by rfl) ?_; dsimp only)); at_builtin; refine Kd.R_append_rows Kd.string (w0 := w) w.heap.size rfl (.tmp 28) (.tmp 29) 24 9 (.string ⟨#[]⟩) 16 rfl Tryd.underlying24 info9 rfl (by decide) (by omega) v255 y254 t251 _ _ _ (fun k_ => some k_ ≠ (.slice Ao15 y247.length co15 : Value).ownBlock ∧ some k_ ≠ (.slice Ao20 t251.length co20 : Value).ownBlock) (fun _ => False) rfl rfl ?aO ?aR (fun _ _ h => h) (fun _ h => h.elim) ?aF ?aB ?aS ?aL ?_; (case aR => repeat (first | exact (Kd.R_reads' HO253.out).2.2 | (with_reducible refine Kd.C_alloc ?_ _) | (with_reducible refine Kd.C_drewN ?_ _) | (with_reducible refine Kd.C_drew ?_))); (case aB => exact (by repeat (first | (with_reducible first | exact HB.out | apply below_alloc | apply pw_below_drewN | apply below_drew1) | exact HB.out))); (case aF => exact (fun k_ hk => ⟨Kd.fresh' (Kd.R_lt (by (with_reducible repeat (first | apply Kd.R_alloc | apply Kd.R_drewN | apply Kd.R_drew)); exact HO249.out)) k_ hk, Kd.fresh' (Kd.R_lt (by (with_reducible repeat (first | apply Kd.R_alloc | apply Kd.R_drewN | apply Kd.R_drew)); exact HO253.out)) k_ hk⟩)); (case aO => exact (by (with_reducible repeat (first | apply Kd.R_alloc | apply Kd.R_drewN | apply Kd.R_drew)); exact Kd.R_mono HO256.out (fun _ hk => ⟨hk.1.2, hk.2⟩))); (case aS => exact (below_size (by repeat (first | (with_reducible first | exact HB.out | apply below_alloc | apply pw_below_drewN | apply below_drew1) | exact HB.out)))); (case aL => have := LMc10.out; omega); intro v258 w19 ho hb hg hat; rw [← Ny257.out] at ho; have n0_ := Aside0.mk (Kd.R_after (ok := (fun k_ => some k_ ≠ (.slice Ao20 t251.length co20 : Value).ownBlock)) (by (with_reducible repeat (first | apply Kd.R_alloc | apply Kd.R_drewN | apply Kd.R_drew)); exact Kd.R_mono HO249.out (fun _ hk => ⟨hk.1.2, hk.2⟩)) hg hat); have n1_ := Aside0.mk (Kd.R_after (ok := (fun k_ => some k_ ≠ (.slice Ao15 y247.length co15 : Value).ownBlock)) (by (with_reducible repeat (first | apply Kd.R_alloc | apply Kd.R_drewN | apply Kd.R_drew)); exact Kd.R_mono HO253.out (fun _ hk => ⟨hk.1.2, hk.2⟩)) hg hat); have n2_ := Aside0.mk (hb); have n3_ := Aside0.mk (ho); clear HO249; clear HO253; clear HB; clear HO256; have HO249 := n0_; have HO253 := n1_; have HB := n2_; have HO259 := n3_; clear n0_ n1_ n2_ n3_; clear ho hb hg hat) | ((with_reducible refine gate_builtin (b := .append) (xs := #[.tmp 30, .tmp 31]) rfl ?_); (try (refine gate_guard (by rfl) ?_; dsimp only)); at_builtin; refine Kd.R_append_rows Kd.string (w0 := w) w.heap.size rfl (.tmp 30) (.tmp 31) 24 9 (.string ⟨#[]⟩) 16 rfl Tryd.underlying24 info9 rfl (by decide) (by omega) v258 y257 t251 _ _ _ (fun k_ => some k_ ≠ (.slice Ao15 y247.length co15 : Value).ownBlock ∧ some k_ ≠ (.slice Ao20 t251.length co20 : Value).ownBlock) (fun _ => False) rfl rfl ?aO ?aR (fun _ _ h => h) (fun _ h => h.elim) ?aF ?aB ?aS ?aL ?_; (case aR => repeat (first | exact (Kd.R_reads' HO253.out).2.2 | (with_reducible refine Kd.C_alloc ?_ _) | (with_reducible refine Kd.C_drewN ?_ _) | (with_reducible refine Kd.C_drew ?_))); (case aB => exact (by repeat (first | (with_reducible first | exact HB.out | apply below_alloc | apply pw_below_drewN | apply below_drew1) | exact HB.out))); (case aF => exact (fun k_ hk => ⟨Kd.fresh' (Kd.R_lt (by (with_reducible repeat (first | apply Kd.R_alloc | apply Kd.R_drewN | apply Kd.R_drew)); exact HO249.out)) k_ hk, Kd.fresh' (Kd.R_lt (by (with_reducible repeat (first | apply Kd.R_alloc | apply Kd.R_drewN | apply Kd.R_drew)); exact HO253.out)) k_ hk⟩)); (case aO => exact (by (with_reducible repeat (first | apply Kd.R_alloc | apply Kd.R_drewN | apply Kd.R_drew)); exact HO259.out)); (case aS => exact (below_size (by repeat (first | (with_reducible first | exact HB.out | apply below_alloc | apply pw_below_drewN | apply below_drew1) | exact HB.out)))); (case aL => have := LMc11.out; omega); intro v261 w21 ho hb hg hat; rw [← Ny260.out] at ho; have n0_ := Aside0.mk (Kd.R_after (ok := (fun k_ => some k_ ≠ (.slice Ao20 t251.length co20 : Value).ownBlock)) (by (with_reducible repeat (first | apply Kd.R_alloc | apply Kd.R_drewN | apply Kd.R_drew)); exact HO249.out) hg hat); have n1_ := Aside0.mk (Kd.R_after (ok := (fun k_ => some k_ ≠ (.slice Ao15 y247.length co15 : Value).ownBlock)) (by (with_reducible repeat (first | apply Kd.R_alloc | apply Kd.R_drewN | apply Kd.R_drew)); exact HO253.out) hg hat); have n2_ := Aside0.mk (hb); have n3_ := Aside0.mk (ho); clear HO249; clear HO253; clear HB; clear HO259; have HO249 := n0_; have HO253 := n1_; have HB := n2_; have HO262 := n3_; clear n0_ n1_ n2_ n3_; clear ho hb hg hat; obtain ⟨Ao22, co22, eo22⟩ := Kd.R_slice HO262.out; subst eo22) | ((with_reducible refine gate_callee (f := 9) rfl ?_); refine goesL_ (some 34) rfl rfl Tryd.func9 (by kernel_rfl) rfl #[.slice Ao22 y260.length co22, .slice A2 l2.length c2] rfl (by (try simp only [List.map_toArray, List.map_cons, List.map_nil]); first | done | rfl | (simp only [List.length_drop, List.length_take]; rfl)) ?_; (with_reducible refine (laws_shuffle.calls kj3 _ _ y260 _ _ l2 t263 _ ?side1 ?side2 ?side3 ?side4 A12.out).mono ?_); (case side1 => repeat (first | exact (Kd.R_reads' HO262.out).2.2 | (with_reducible refine Kd.C_alloc ?_ _) | (with_reducible refine Kd.C_drewN ?_ _) | (with_reducible refine Kd.C_drew ?_))); (case side2 => exact (Kd.R_reads' HO262.out).2.1); (case side3 => repeat (first | exact (Kd.C_below HR2.out HB.out) | (with_reducible refine Kd.C_alloc ?_ _) | (with_reducible refine Kd.C_drewN ?_ _) | (with_reducible refine Kd.C_drew ?_))); (case side4 => exact HC2.out); rintro e w23 ⟨v264, rfl, ho0, hb⟩; refine ⟨_, rfl, ?_⟩; have n0_ := Aside0.mk (Kd.R_elder' (by (with_reducible repeat (first | apply Kd.R_alloc | apply Kd.R_drewN | apply Kd.R_drew)); exact HO249.out) (Kd.R_base ho0) hb); have n1_ := Aside0.mk (Kd.R_elder' (by (with_reducible repeat (first | apply Kd.R_alloc | apply Kd.R_drewN | apply Kd.R_drew)); exact HO253.out) (Kd.R_base ho0) hb); have n2_ := Aside0.mk (Kd.R_elder' (by (with_reducible repeat (first | apply Kd.R_alloc | apply Kd.R_drewN | apply Kd.R_drew)); exact HO262.out) (Kd.R_base ho0) hb); have n3_ := Aside0.mk (Kd.R_lower (Kd.R_new' (Kd.R_new' (Kd.R_new' ho0 (Kd.R_lt (by (with_reducible repeat (first | apply Kd.R_alloc | apply Kd.R_drewN | apply Kd.R_drew)); exact HO249.out))) (Kd.R_lt (by (with_reducible repeat (first | apply Kd.R_alloc | apply Kd.R_drewN | apply Kd.R_drew)); exact HO253.out))) (Kd.R_lt (by (with_reducible repeat (first | apply Kd.R_alloc | apply Kd.R_drewN | apply Kd.R_drew)); exact HO262.out))) (below_size (by repeat (first | (with_reducible first | exact HB.out | apply below_alloc | apply pw_below_drewN | apply below_drew1) | exact HB.out)))); have n4_ := Aside0.mk (below_step (by repeat (first | (with_reducible first | exact HB.out | apply below_alloc | apply pw_below_drewN | apply below_drew1) | exact HB.out)) hb); clear HO249; clear HO253; clear HO262; clear HB; have HO249 := n0_; have HO253 := n1_; have HO262 := n2_; have HO265 := n3_; have HB := n4_; clear n0_ n1_ n2_ n3_ n4_; (try clear hb); (try clear hb2); (try clear hk); (try clear hi); (try clear ho0); obtain ⟨Ao24, co24, eo24⟩ := Kd.R_slice HO265.out; subst eo24))
              go_loopg [37] kj3 (fun kq v37 w' => ∃ (x7_2 : List ByteArray) (x37_2 : Int), v37 = .int .i64 x37_2 ∧ Aside0 (laws_FnDoubledPieces.l0 kq a0 x7_2 (t263.length : Int) x37_2 = some r) ∧ Aside0 (kq ≤ kj3) ∧ Aside0 (Kd.R Kd.string 9 w' w.heap.size (fun _ => True) (.slice Ao24 t263.length co24) x7_2) ∧ Aside0 (Below w.heap.size w w'))
              case atStart => exact ⟨(t263), (0), (by first | rfl | (simp; done) | (simp [*]; done)), H', ⟨Nat.le_refl _⟩, ⟨by (with_reducible repeat (first | apply Kd.R_alloc | apply Kd.R_drewN | apply Kd.R_drew)); exact Kd.R_mono HO265.out (fun _ hk => trivial)⟩, ⟨by repeat (first | (with_reducible first | exact HB.out | apply below_alloc | apply pw_below_drewN | apply below_drew1) | exact HB.out)⟩⟩
              case round =>
                clear H'
                try clear c1
                try clear c2
                try clear p2
                try clear c3
                try clear c5
                try clear c5b0
                try clear c5b1
                try clear c6
                try clear c7
                try clear c8
                try clear c9
                try clear c10
                try clear c11
                try clear p2
                obtain ⟨x7_2, x37_2, rfl, HA, HK2, HO_7, HB⟩ := hrel
                have hl7_2 := (Kd.R_reads' HO_7.out).1
                rw [hl7_2] at HO_7
                (try simp only [hl7_2])
                cases gk with
                | zero => exact absurd HA.out (by simp [laws_FnDoubledPieces.l0])
                | succ k2 =>
                  have H := HA.out
                  clear HA
                  simp only [laws_FnDoubledPieces.l0] at H
                  by_cases c25 : x37_2 < (t263.length : Int)
                  · rw [if_pos c25] at H
                    have c25b0 : decide (x37_2 < (t263.length : Int)) = true := decide_eq_true c25
                    have c25b1 := c25b0
                    rw [hl7_2] at c25b1
                    clear c25
                    by_cases c26 : 0 ≤ x37_2
                    · rw [if_pos c26] at H
                      have c26b0 : decide (0 ≤ x37_2) = true := decide_eq_true c26
                      clear c26
                      by_cases c27 : x37_2 < (x7_2.length : Int)
                      · rw [if_pos c27] at H
                        have c27b0 : decide (x37_2 < (x7_2.length : Int)) = true := decide_eq_true c27
                        clear c27
                        replace H := Option.bind_eq_some_iff.mp H
                        obtain ⟨t267, A280, H⟩ := H
                        replace H : (laws_FnDoubledPieces.l0 k2 a0 (x7_2.set (x37_2 : Int).toNat t267) (t263.length : Int) (wrap64 (x37_2 + 1))) = some r := H
                        have A28 := Aside0.mk A280
                        clear A280
                        obtain ⟨y268, hy268⟩ : ∃ y_ : List ByteArray, y_ = (x7_2.set (x37_2 : Int).toNat t267) := ⟨_, rfl⟩
                        replace H : (laws_FnDoubledPieces.l0 k2 a0 y268 (t263.length : Int) (wrap64 (x37_2 + 1))) = some r := by first | (rw [hy268]; with_reducible exact H) | (have H2_ := (Option.bind_some _ _).symm.trans H; rw [hy268]; with_reducible exact H2_) | (have H2_ := (Option.bind_some _ _).symm.trans H; with_reducible exact H2_) | with_reducible exact H | (rw [hy268]; exact H) | exact H
                        have Ny268 := Aside0.mk hy268
                        clear hy268
                        have H' := Aside0.mk H
                        clear H
                        have p266 : 0 ≤ (x37_2 : Int) := of_decide_eq_true (by first | (with_reducible assumption) | assumption)
                        have q266 : x37_2 < (x7_2.length : Int) := of_decide_eq_true (by first | (with_reducible assumption) | assumption)
                        obtain ⟨ad266, e266, hx266_0⟩ := Kd.at_string (Kd.R_reads' HO_7.out).2.2 x37_2 p266 q266
                        cases e266
                        replace p266 := eq_true p266
                        replace q266 := eq_true q266
                        go_wp2_with (first | ((with_reducible refine gate_callee (f := 10) rfl ?_); refine goesL_ (some 47) rfl rfl Tryd.func10 (by kernel_rfl) rfl #[.int .i64 x37_2, .string (rdOf ByteArray.empty x7_2 x37_2)] rfl (by (try simp only [List.map_toArray, List.map_cons, List.map_nil]); first | done | rfl | (simp only [List.length_drop, List.length_take]; rfl)) ?_; (with_reducible refine (laws_record.calls k2 x37_2 (rdOf ByteArray.empty x7_2 x37_2) t267 _ A28.out).mono ?_); rintro e w30 ⟨rfl, hb⟩; refine ⟨_, rfl, ?_⟩; have n0_ := Aside0.mk (Kd.R_below (by (with_reducible repeat (first | apply Kd.R_alloc | apply Kd.R_drewN | apply Kd.R_drew)); exact HO_7.out) hb); have n1_ := Aside0.mk (below_step (by repeat (first | (with_reducible first | exact HB.out | apply below_alloc | apply pw_below_drewN | apply below_drew1) | exact HB.out)) hb); clear HO_7; clear HB; have HO_7 := n0_; have HB := n1_; clear n0_ n1_; (try clear hb); (try clear hb2); (try clear hk); (try clear hi); have p29 : 0 ≤ (x37_2 : Int) := of_decide_eq_true (by first | (with_reducible assumption) | assumption); have q29 : (x37_2 : Int) < ((x7_2.length : Int) : Int) := of_decide_eq_true (by first | (with_reducible assumption) | assumption); obtain ⟨go29, co29, eo29, gb29, gl29, cl29, HG29⟩ := Kd.R_form HO_7.out (by omega); (first | cases eo29 | (injection eo29 with ea_ en_ ec_; (first | subst ea_ | (injection ea_ with ea_; subst ea_)); subst ec_; clear en_)); have GB29 := Aside0.mk gb29; have GG29 := Aside0.mk HG29; clear gb29 gl29 HG29; (first | simp only [add_plain] at hx266_0 | skip); obtain ⟨hx29_0, hf29_0⟩ := Kd.R_celln (⟨#[]⟩ : ByteArray) HO_7.out (x37_2 : Int) p29 q29; replace p29 := eq_true p29; replace q29 := eq_true q29; obtain ⟨hy31_, hz31_⟩ := Kd.R_celln (⟨#[]⟩ : ByteArray) HO_7.out (x37_2 : Int) (of_decide_eq_true (by first | (with_reducible assumption) | assumption)) (of_decide_eq_true (by first | (with_reducible assumption) | assumption)); have HP31 := Kd.R_putg HO_7.out (x37_2 : Int) t267) | ((with_reducible refine gate_store (t := 9) (p := 48) rfl ?_); refine store_event (t := 9) (p := 48) (v := ?vo_w32) (w1 := (w30.setCell ⟨go29, (x37_2 : Int).toNat, none⟩ (.string t267))) ?hg ?ho ?hn ?hr ?_; (case ho => rfl); (case hg => rfl); (case hn => rfl); (case hr => first | (go_simp; done) | (go_simp; rfl)); intro w32 hw; have hg : w30.grownBy w32 (some go29) := (by rw [hw]; exact HP31.2); have hp_ : Kd.R Kd.string 9 w32 w.heap.size (fun _ => True) (.slice (some ⟨go29, 0, none⟩) x7_2.length co24) y268 := (by rw [hw, Ny268.out]; exact HP31.1); clear HP31; have n0_ := Aside0.mk (hp_); have n1_ := Aside0.mk ((by rw [hw]; exact below_set (HB.out) GB29.out : Below w.heap.size w w32)); clear HO_7; clear HB; have HO_7 := n0_; have HB := n1_; clear n0_ n1_; clear hg hw hp_))
                        (try simp only [← hl7_2])
                        go_roundg k2
                        case measure => have := HJ3.out; have := HK2.out; omega
                        case rel => exact ⟨(y268), (wrap64 (x37_2 + 1)), (by first | rfl | (simp; done) | (simp [*]; done)), H', ⟨by have := HJ3.out; have := HK2.out; omega⟩, ⟨by (try simp only [hl7_2]); (with_reducible repeat (first | apply Kd.R_alloc | apply Kd.R_drewN | apply Kd.R_drew)); exact HO_7.out⟩, ⟨by repeat (first | (with_reducible first | exact HB.out | apply below_alloc | apply pw_below_drewN | apply below_drew1) | exact HB.out)⟩⟩
                      · rw [if_neg c27] at H
                        exact absurd H (by simp)
                    · rw [if_neg c26] at H
                      exact absurd H (by simp)
                  · rw [if_neg c25] at H
                    have c25b0 : decide (x37_2 < (t263.length : Int)) = false := decide_eq_false c25
                    have c25b1 := c25b0
                    rw [hl7_2] at c25b1
                    clear c25
                    replace H := Option.bind_eq_some_iff.mp H
                    obtain ⟨t269, A330, H⟩ := H
                    replace H : ((impl_Fragments.f k2 t269).bind fun t272 => ((laws_come.f k2 t269 t272).bind fun bt275 => (if bt275.2 = true then ((laws_whole.f k2 11 0 a0).bind fun t279 => ((laws_texts.f k2 bt275.1 (([t279] : List ByteArray))).bind fun t283 => (some t283))) else (some false)))) = some r := H
                    have A33 := Aside0.mk A330
                    clear A330
                    replace H := Option.bind_eq_some_iff.mp H
                    obtain ⟨t272, A340, H⟩ := H
                    replace H : ((laws_come.f k2 t269 t272).bind fun bt275 => (if bt275.2 = true then ((laws_whole.f k2 11 0 a0).bind fun t279 => ((laws_texts.f k2 bt275.1 (([t279] : List ByteArray))).bind fun t283 => (some t283))) else (some false))) = some r := H
                    have A34 := Aside0.mk A340
                    clear A340
                    replace H := Option.bind_eq_some_iff.mp H
                    obtain ⟨⟨t275, t276⟩, A350, H⟩ := H
                    replace H : (if t276 = true then ((laws_whole.f k2 11 0 a0).bind fun t279 => ((laws_texts.f k2 t275 (([t279] : List ByteArray))).bind fun t283 => (some t283))) else (some false)) = some r := H
                    have A35 := Aside0.mk A350
                    clear A350
                    by_cases c36 : t276 = true
                    · subst c36
                      have H1 : ((laws_whole.f k2 11 0 a0).bind fun t279 => ((laws_texts.f k2 t275 (([t279] : List ByteArray))).bind fun t283 => (some t283))) = some r := by rw [if_pos rfl] at H; exact H
                      clear H
                      have H := H1
                      clear H1
                      replace H := Option.bind_eq_some_iff.mp H
                      obtain ⟨t279, A370, H⟩ := H
                      replace H : ((laws_texts.f k2 t275 (([t279] : List ByteArray))).bind fun t283 => (some t283)) = some r := H
                      have A37 := Aside0.mk A370
                      clear A370
                      obtain ⟨y280, hy280⟩ : ∃ y_ : List ByteArray, y_ = (([t279] : List ByteArray)) := ⟨_, rfl⟩
                      replace H : ((laws_texts.f k2 t275 y280).bind fun t283 => (some t283)) = some r := by first | (rw [hy280]; with_reducible exact H) | (have H2_ := (Option.bind_some _ _).symm.trans H; rw [hy280]; with_reducible exact H2_) | (have H2_ := (Option.bind_some _ _).symm.trans H; with_reducible exact H2_) | with_reducible exact H | (rw [hy280]; exact H) | exact H
                      have Ny280 := Aside0.mk hy280
                      clear hy280
                      replace H := Option.bind_eq_some_iff.mp H
                      obtain ⟨t283, A380, H⟩ := H
                      replace H : (some t283) = some r := H
                      have A38 := Aside0.mk A380
                      clear A380
                      obtain rfl := Option.some.inj H
                      go_wp2_with (first | ((with_reducible refine gate_callee (f := 11) rfl ?_); refine goesL_ (some 51) rfl rfl Tryd.func11 (by kernel_rfl) rfl #[.slice Ao24 x7_2.length co24, .int .i64 2] rfl (by (try simp only [List.map_toArray, List.map_cons, List.map_nil]); first | done | rfl | (simp only [List.length_drop, List.length_take]; rfl)) ?_; (with_reducible refine (laws_pops.calls k2 _ _ x7_2 2 t269 _ ?side1 ?side2 A33.out).mono ?_); (case side1 => repeat (first | exact (Kd.R_reads' HO_7.out).2.2 | (with_reducible refine Kd.C_alloc ?_ _) | (with_reducible refine Kd.C_drewN ?_ _) | (with_reducible refine Kd.C_drew ?_))); (case side2 => exact (Kd.R_reads' HO_7.out).2.1); rintro e w39 ⟨v270, rfl, ho0, hb⟩; refine ⟨_, rfl, ?_⟩; have n0_ := Aside0.mk (Kd.R_below (by (with_reducible repeat (first | apply Kd.R_alloc | apply Kd.R_drewN | apply Kd.R_drew)); exact HO_7.out) hb); have n1_ := Aside0.mk (Kd.R_lower ho0 (below_size (by repeat (first | (with_reducible first | exact HB.out | apply below_alloc | apply pw_below_drewN | apply below_drew1) | exact HB.out)))); have n2_ := Aside0.mk (below_step (by repeat (first | (with_reducible first | exact HB.out | apply below_alloc | apply pw_below_drewN | apply below_drew1) | exact HB.out)) hb); clear HO_7; clear HB; have HO_7 := n0_; have HO271 := n1_; have HB := n2_; clear n0_ n1_ n2_; (try clear hb); (try clear hb2); (try clear hk); (try clear hi); (try clear ho0); obtain ⟨Ao40, co40, eo40⟩ := Kd.R_slice HO271.out; subst eo40) | ((with_reducible refine gate_callee (f := 13) rfl ?_); refine goesL_ (some 55) rfl rfl Tryd.func13 (by kernel_rfl) rfl #[.slice Ao40 t269.length co40] rfl (by (try simp only [List.map_toArray, List.map_cons, List.map_nil]); first | done | rfl | (simp only [List.length_drop, List.length_take]; rfl)) ?_; (with_reducible refine (impl_Fragments.calls k2 _ _ t269 t272 _ ?side1 ?side2 A34.out (HGL.out.below (by repeat (first | (with_reducible first | exact HB.out | apply below_alloc | apply pw_below_drewN | apply below_drew1) | exact HB.out)) HGL.out.lt)).mono ?_); (case side1 => repeat (first | exact (Kd.R_reads' HO271.out).2.2 | (with_reducible refine Kd.C_alloc ?_ _) | (with_reducible refine Kd.C_drewN ?_ _) | (with_reducible refine Kd.C_drew ?_))); (case side2 => exact (Kd.R_reads' HO271.out).2.1); rintro e w41 ⟨v273, rfl, ho0, hb⟩; refine ⟨_, rfl, ?_⟩; have n0_ := Aside0.mk (Kd.R_below (by (with_reducible repeat (first | apply Kd.R_alloc | apply Kd.R_drewN | apply Kd.R_drew)); exact HO_7.out) hb); have n1_ := Aside0.mk (Kd.R_below (by (with_reducible repeat (first | apply Kd.R_alloc | apply Kd.R_drewN | apply Kd.R_drew)); exact HO271.out) hb); have n2_ := Aside0.mk (Kd.R_lower ho0 (below_size (by repeat (first | (with_reducible first | exact HB.out | apply below_alloc | apply pw_below_drewN | apply below_drew1) | exact HB.out)))); have n3_ := Aside0.mk (below_step (by repeat (first | (with_reducible first | exact HB.out | apply below_alloc | apply pw_below_drewN | apply below_drew1) | exact HB.out)) hb); clear HO_7; clear HO271; clear HB; have HO_7 := n0_; have HO271 := n1_; have HO274 := n2_; have HB := n3_; clear n0_ n1_ n2_ n3_; (try clear hb); (try clear hb2); (try clear hk); (try clear hi); (try clear ho0); obtain ⟨Ao42, co42, eo42⟩ := Kd.R_slice HO274.out; subst eo42) | ((with_reducible refine gate_callee (f := 12) rfl ?_); refine goesL_ (some 56) rfl rfl Tryd.func12 (by kernel_rfl) rfl #[.slice Ao40 t269.length co40, .slice Ao42 t272.length co42] rfl (by (try simp only [List.map_toArray, List.map_cons, List.map_nil]); first | done | rfl | (simp only [List.length_drop, List.length_take]; rfl)) ?_; (with_reducible refine (laws_come.calls k2 _ _ t269 _ _ t272 t275 true _ ?side1 ?side2 ?side3 ?side4 A35.out).mono ?_); (case side1 => repeat (first | exact (Kd.R_reads' HO271.out).2.2 | (with_reducible refine Kd.C_alloc ?_ _) | (with_reducible refine Kd.C_drewN ?_ _) | (with_reducible refine Kd.C_drew ?_))); (case side2 => exact (Kd.R_reads' HO271.out).2.1); (case side3 => repeat (first | exact (Kd.R_reads' HO274.out).2.2 | (with_reducible refine Kd.C_alloc ?_ _) | (with_reducible refine Kd.C_drewN ?_ _) | (with_reducible refine Kd.C_drew ?_))); (case side4 => exact (Kd.R_reads' HO274.out).2.1); rintro e w43 ⟨v277, rfl, ho0, hb⟩; refine ⟨_, rfl, ?_⟩; have n0_ := Aside0.mk (Kd.R_elder' (by (with_reducible repeat (first | apply Kd.R_alloc | apply Kd.R_drewN | apply Kd.R_drew)); exact HO_7.out) (Kd.R_base ho0) hb); have n1_ := Aside0.mk (Kd.R_below (by (with_reducible repeat (first | apply Kd.R_alloc | apply Kd.R_drewN | apply Kd.R_drew)); exact HO271.out) hb); have n2_ := Aside0.mk (Kd.R_below (by (with_reducible repeat (first | apply Kd.R_alloc | apply Kd.R_drewN | apply Kd.R_drew)); exact HO274.out) hb); have n3_ := Aside0.mk (Kd.R_lower (Kd.R_new' ho0 (Kd.R_lt (by (with_reducible repeat (first | apply Kd.R_alloc | apply Kd.R_drewN | apply Kd.R_drew)); exact HO_7.out))) (below_size (by repeat (first | (with_reducible first | exact HB.out | apply below_alloc | apply pw_below_drewN | apply below_drew1) | exact HB.out)))); have n4_ := Aside0.mk (below_step (by repeat (first | (with_reducible first | exact HB.out | apply below_alloc | apply pw_below_drewN | apply below_drew1) | exact HB.out)) hb); clear HO_7; clear HO271; clear HO274; clear HB; have HO_7 := n0_; have HO271 := n1_; have HO274 := n2_; have HO278 := n3_; have HB := n4_; clear n0_ n1_ n2_ n3_ n4_; (try clear hb); (try clear hb2); (try clear hk); (try clear hi); (try clear ho0)) | (go_at_call 15; (with_reducible refine (laws_whole.calls k2 11 0 a0 t279 _ A37.out).mono ?_); rintro e w44 ⟨rfl, hb⟩; have n0_ := Aside0.mk (Kd.R_below (by (with_reducible repeat (first | apply Kd.R_alloc | apply Kd.R_drewN | apply Kd.R_drew)); exact HO_7.out) hb); have n1_ := Aside0.mk (Kd.R_below (by (with_reducible repeat (first | apply Kd.R_alloc | apply Kd.R_drewN | apply Kd.R_drew)); exact HO271.out) hb); have n2_ := Aside0.mk (Kd.R_below (by (with_reducible repeat (first | apply Kd.R_alloc | apply Kd.R_drewN | apply Kd.R_drew)); exact HO274.out) hb); have n3_ := Aside0.mk (Kd.R_below (by (with_reducible repeat (first | apply Kd.R_alloc | apply Kd.R_drewN | apply Kd.R_drew)); exact HO278.out) hb); have n4_ := Aside0.mk (below_step (by repeat (first | (with_reducible first | exact HB.out | apply below_alloc | apply pw_below_drewN | apply below_drew1) | exact HB.out)) hb); clear HO_7; clear HO271; clear HO274; clear HO278; clear HB; have HO_7 := n0_; have HO271 := n1_; have HO274 := n2_; have HO278 := n3_; have HB := n4_; clear n0_ n1_ n2_ n3_ n4_; (try clear hb); (try clear hb2); (try clear hk); (try clear hi)) | ((with_reducible refine gate_dst (N := 64) rfl ?_); (try (refine gate_guard (by rfl) ?_; dsimp only)); refine Kd.R_lit Kd.string _ 9 ?hg (N := 64) ?hd (xs := ([t279] : List ByteArray)) (inner := [.string t279]) (ok := fun _ => True) (okp := fun _ => True) ?hr ?hp (fun _ hk => hk) trivial (Below.refl _ _) (Nat.le_refl _) (by simp) ?_; (case hd => rfl); (case hg => rfl); (case hr => first | (go_simp; done) | (go_simp; rfl)); (case hp => exact (Reps.one (show Kd.M Kd.string _ _ _ t279 [.string t279] from rfl) (Reps.none _ _))); intro v281 w45 ho46 hb hg_ hnew_; clear hg_ hnew_; (first | rw [← Ny280.out] at ho46 | (simp only [Int.reduceToNat] at ho46; rw [← Ny280.out] at ho46)); have n0_ := Aside0.mk (Kd.R_elder' (by (with_reducible repeat (first | apply Kd.R_alloc | apply Kd.R_drewN | apply Kd.R_drew)); exact HO_7.out) (Kd.R_base ho46) hb); have n1_ := Aside0.mk (Kd.R_below (by (with_reducible repeat (first | apply Kd.R_alloc | apply Kd.R_drewN | apply Kd.R_drew)); exact HO271.out) hb); have n2_ := Aside0.mk (Kd.R_below (by (with_reducible repeat (first | apply Kd.R_alloc | apply Kd.R_drewN | apply Kd.R_drew)); exact HO274.out) hb); have n3_ := Aside0.mk (Kd.R_elder' (by (with_reducible repeat (first | apply Kd.R_alloc | apply Kd.R_drewN | apply Kd.R_drew)); exact HO278.out) (Kd.R_base ho46) hb); have n4_ := Aside0.mk (Kd.R_lower (Kd.R_new' (Kd.R_new' ho46 (Kd.R_lt (by (with_reducible repeat (first | apply Kd.R_alloc | apply Kd.R_drewN | apply Kd.R_drew)); exact HO_7.out))) (Kd.R_lt (by (with_reducible repeat (first | apply Kd.R_alloc | apply Kd.R_drewN | apply Kd.R_drew)); exact HO278.out))) (below_size (by repeat (first | (with_reducible first | exact HB.out | apply below_alloc | apply pw_below_drewN | apply below_drew1) | exact HB.out)))); have n5_ := Aside0.mk (below_step (by repeat (first | (with_reducible first | exact HB.out | apply below_alloc | apply pw_below_drewN | apply below_drew1) | exact HB.out)) hb); clear HO_7; clear HO271; clear HO274; clear HO278; clear HB; have HO_7 := n0_; have HO271 := n1_; have HO274 := n2_; have HO278 := n3_; have HO282 := n4_; have HB := n5_; clear n0_ n1_ n2_ n3_ n4_ n5_; clear hb ho46; obtain ⟨Ao47, co47, eo47⟩ := Kd.R_slice HO278.out; subst eo47; obtain ⟨Ao48, co48, eo48⟩ := Kd.R_slice HO282.out; subst eo48) | (go_at_call 14; (with_reducible refine (laws_texts.calls k2 _ _ t275 _ _ y280 t283 _ ?side1 ?side2 ?side3 ?side4 A38.out).mono ?_); (case side1 => repeat (first | exact (Kd.R_reads' HO278.out).2.2 | (with_reducible refine Kd.C_alloc ?_ _) | (with_reducible refine Kd.C_drewN ?_ _) | (with_reducible refine Kd.C_drew ?_))); (case side2 => exact (Kd.R_reads' HO278.out).2.1); (case side3 => repeat (first | exact (Kd.R_reads' HO282.out).2.2 | (with_reducible refine Kd.C_alloc ?_ _) | (with_reducible refine Kd.C_drewN ?_ _) | (with_reducible refine Kd.C_drew ?_))); (case side4 => exact (Kd.R_reads' HO282.out).2.1); rintro e w' ⟨rfl, ⟨nd, rfl⟩⟩))
                      go_ret
                      exact ⟨by first | rfl | (simp [errW_none, errW_some] <;> rfl) | (simp [*, errW_none, errW_some] <;> rfl), by repeat (first | (with_reducible first | exact HB.out | apply below_alloc | apply pw_below_drewN | apply below_drew1) | exact HB.out)⟩
                    · replace c36 := Bool.eq_false_iff.mpr c36
                      subst c36
                      have H1 : (some false) = some r := by rw [if_neg (show ¬ (false = true) by decide)] at H; exact H
                      clear H
                      have H := H1
                      clear H1
                      obtain rfl := Option.some.inj H
                      go_wp2_with (first | ((with_reducible refine gate_callee (f := 11) rfl ?_); refine goesL_ (some 51) rfl rfl Tryd.func11 (by kernel_rfl) rfl #[.slice Ao24 x7_2.length co24, .int .i64 2] rfl (by (try simp only [List.map_toArray, List.map_cons, List.map_nil]); first | done | rfl | (simp only [List.length_drop, List.length_take]; rfl)) ?_; (with_reducible refine (laws_pops.calls k2 _ _ x7_2 2 t269 _ ?side1 ?side2 A33.out).mono ?_); (case side1 => repeat (first | exact (Kd.R_reads' HO_7.out).2.2 | (with_reducible refine Kd.C_alloc ?_ _) | (with_reducible refine Kd.C_drewN ?_ _) | (with_reducible refine Kd.C_drew ?_))); (case side2 => exact (Kd.R_reads' HO_7.out).2.1); rintro e w49 ⟨v270, rfl, ho0, hb⟩; refine ⟨_, rfl, ?_⟩; have n0_ := Aside0.mk (Kd.R_below (by (with_reducible repeat (first | apply Kd.R_alloc | apply Kd.R_drewN | apply Kd.R_drew)); exact HO_7.out) hb); have n1_ := Aside0.mk (Kd.R_lower ho0 (below_size (by repeat (first | (with_reducible first | exact HB.out | apply below_alloc | apply pw_below_drewN | apply below_drew1) | exact HB.out)))); have n2_ := Aside0.mk (below_step (by repeat (first | (with_reducible first | exact HB.out | apply below_alloc | apply pw_below_drewN | apply below_drew1) | exact HB.out)) hb); clear HO_7; clear HB; have HO_7 := n0_; have HO271 := n1_; have HB := n2_; clear n0_ n1_ n2_; (try clear hb); (try clear hb2); (try clear hk); (try clear hi); (try clear ho0); obtain ⟨Ao50, co50, eo50⟩ := Kd.R_slice HO271.out; subst eo50) | ((with_reducible refine gate_callee (f := 13) rfl ?_); refine goesL_ (some 55) rfl rfl Tryd.func13 (by kernel_rfl) rfl #[.slice Ao50 t269.length co50] rfl (by (try simp only [List.map_toArray, List.map_cons, List.map_nil]); first | done | rfl | (simp only [List.length_drop, List.length_take]; rfl)) ?_; (with_reducible refine (impl_Fragments.calls k2 _ _ t269 t272 _ ?side1 ?side2 A34.out (HGL.out.below (by repeat (first | (with_reducible first | exact HB.out | apply below_alloc | apply pw_below_drewN | apply below_drew1) | exact HB.out)) HGL.out.lt)).mono ?_); (case side1 => repeat (first | exact (Kd.R_reads' HO271.out).2.2 | (with_reducible refine Kd.C_alloc ?_ _) | (with_reducible refine Kd.C_drewN ?_ _) | (with_reducible refine Kd.C_drew ?_))); (case side2 => exact (Kd.R_reads' HO271.out).2.1); rintro e w51 ⟨v273, rfl, ho0, hb⟩; refine ⟨_, rfl, ?_⟩; have n0_ := Aside0.mk (Kd.R_below (by (with_reducible repeat (first | apply Kd.R_alloc | apply Kd.R_drewN | apply Kd.R_drew)); exact HO_7.out) hb); have n1_ := Aside0.mk (Kd.R_below (by (with_reducible repeat (first | apply Kd.R_alloc | apply Kd.R_drewN | apply Kd.R_drew)); exact HO271.out) hb); have n2_ := Aside0.mk (Kd.R_lower ho0 (below_size (by repeat (first | (with_reducible first | exact HB.out | apply below_alloc | apply pw_below_drewN | apply below_drew1) | exact HB.out)))); have n3_ := Aside0.mk (below_step (by repeat (first | (with_reducible first | exact HB.out | apply below_alloc | apply pw_below_drewN | apply below_drew1) | exact HB.out)) hb); clear HO_7; clear HO271; clear HB; have HO_7 := n0_; have HO271 := n1_; have HO274 := n2_; have HB := n3_; clear n0_ n1_ n2_ n3_; (try clear hb); (try clear hb2); (try clear hk); (try clear hi); (try clear ho0); obtain ⟨Ao52, co52, eo52⟩ := Kd.R_slice HO274.out; subst eo52) | ((with_reducible refine gate_callee (f := 12) rfl ?_); refine goesL_ (some 56) rfl rfl Tryd.func12 (by kernel_rfl) rfl #[.slice Ao50 t269.length co50, .slice Ao52 t272.length co52] rfl (by (try simp only [List.map_toArray, List.map_cons, List.map_nil]); first | done | rfl | (simp only [List.length_drop, List.length_take]; rfl)) ?_; (with_reducible refine (laws_come.calls k2 _ _ t269 _ _ t272 t275 false _ ?side1 ?side2 ?side3 ?side4 A35.out).mono ?_); (case side1 => repeat (first | exact (Kd.R_reads' HO271.out).2.2 | (with_reducible refine Kd.C_alloc ?_ _) | (with_reducible refine Kd.C_drewN ?_ _) | (with_reducible refine Kd.C_drew ?_))); (case side2 => exact (Kd.R_reads' HO271.out).2.1); (case side3 => repeat (first | exact (Kd.R_reads' HO274.out).2.2 | (with_reducible refine Kd.C_alloc ?_ _) | (with_reducible refine Kd.C_drewN ?_ _) | (with_reducible refine Kd.C_drew ?_))); (case side4 => exact (Kd.R_reads' HO274.out).2.1); rintro e w53 ⟨v277, rfl, ho0, hb⟩; refine ⟨_, rfl, ?_⟩; have n0_ := Aside0.mk (Kd.R_elder' (by (with_reducible repeat (first | apply Kd.R_alloc | apply Kd.R_drewN | apply Kd.R_drew)); exact HO_7.out) (Kd.R_base ho0) hb); have n1_ := Aside0.mk (Kd.R_below (by (with_reducible repeat (first | apply Kd.R_alloc | apply Kd.R_drewN | apply Kd.R_drew)); exact HO271.out) hb); have n2_ := Aside0.mk (Kd.R_below (by (with_reducible repeat (first | apply Kd.R_alloc | apply Kd.R_drewN | apply Kd.R_drew)); exact HO274.out) hb); have n3_ := Aside0.mk (Kd.R_lower (Kd.R_new' ho0 (Kd.R_lt (by (with_reducible repeat (first | apply Kd.R_alloc | apply Kd.R_drewN | apply Kd.R_drew)); exact HO_7.out))) (below_size (by repeat (first | (with_reducible first | exact HB.out | apply below_alloc | apply pw_below_drewN | apply below_drew1) | exact HB.out)))); have n4_ := Aside0.mk (below_step (by repeat (first | (with_reducible first | exact HB.out | apply below_alloc | apply pw_below_drewN | apply below_drew1) | exact HB.out)) hb); clear HO_7; clear HO271; clear HO274; clear HB; have HO_7 := n0_; have HO271 := n1_; have HO274 := n2_; have HO278 := n3_; have HB := n4_; clear n0_ n1_ n2_ n3_ n4_; (try clear hb); (try clear hb2); (try clear hk); (try clear hi); (try clear ho0)))
                      go_ret
                      exact ⟨by first | rfl | (simp [errW_none, errW_some] <;> rfl) | (simp [*, errW_none, errW_some] <;> rfl), by repeat (first | (with_reducible first | exact HB.out | apply below_alloc | apply pw_below_drewN | apply below_drew1) | exact HB.out)⟩
            · rw [if_neg c11] at H
              exact absurd H (by simp)
          · rw [if_neg c10] at H
            exact absurd H (by simp)
        · replace c8 := Bool.eq_false_iff.mpr c8
          subst c8
          have H1 : (some true) = some r := by rw [if_neg (show ¬ (false = true) by decide)] at H; exact H
          clear H
          have H := H1
          clear H1
          obtain rfl := Option.some.inj H
          go_wp2_with (first | ((with_reducible refine gate_dst (N := 21) rfl ?_); (try (refine gate_guard (by rfl) ?_; dsimp only)); refine Kd.R_lit Kd.string _ 9 ?hg (N := 21) ?hd (xs := ([a0] : List ByteArray)) (inner := [.string a0]) (ok := fun _ => True) (okp := fun _ => True) ?hr ?hp (fun _ hk => hk) trivial (Below.refl _ _) (Nat.le_refl _) (by simp) ?_; (case hd => rfl); (case hg => rfl); (case hr => first | (go_simp; done) | (go_simp; rfl)); (case hp => exact (Reps.one (show Kd.M Kd.string _ _ _ a0 [.string a0] from rfl) (Reps.none _ _))); intro v248 w54 ho55 hb hg_ hnew_; clear hg_ hnew_; (first | rw [← Ny247.out] at ho55 | (simp only [Int.reduceToNat] at ho55; rw [← Ny247.out] at ho55)); have n0_ := Aside0.mk (Kd.R_lower ho55 (below_size (by repeat (first | (with_reducible first | exact HB.out | apply below_alloc | apply pw_below_drewN | apply below_drew1) | exact HB.out)))); have n1_ := Aside0.mk (below_step (by repeat (first | (with_reducible first | exact HB.out | apply below_alloc | apply pw_below_drewN | apply below_drew1) | exact HB.out)) hb); clear HB; have HO249 := n0_; have HB := n1_; clear n0_ n1_; clear hb ho55; obtain ⟨Ao56, co56, eo56⟩ := Kd.R_slice HO249.out; subst eo56) | ((with_reducible refine gate_callee (f := 7) rfl ?_); refine goesL_ (some 23) rfl rfl Tryd.func7 (by kernel_rfl) rfl #[.slice Ao56 y247.length co56, .int .i64 a1] rfl (by (try simp only [List.map_toArray, List.map_cons, List.map_nil]); first | done | rfl | (simp only [List.length_drop, List.length_take]; rfl)) ?_; (with_reducible refine (laws_light.calls kj3 _ _ y247 a1 false _ ?side1 ?side2 A7.out).mono ?_); (case side1 => repeat (first | exact (Kd.R_reads' HO249.out).2.2 | (with_reducible refine Kd.C_alloc ?_ _) | (with_reducible refine Kd.C_drewN ?_ _) | (with_reducible refine Kd.C_drew ?_))); (case side2 => exact (Kd.R_reads' HO249.out).2.1); rintro e w' ⟨rfl, ⟨nd, rfl⟩⟩; refine ⟨_, rfl, ?_⟩))
          go_ret
          exact ⟨by first | rfl | (simp [errW_none, errW_some] <;> rfl) | (simp [*, errW_none, errW_some] <;> rfl), by repeat (first | (with_reducible first | exact HB.out | apply below_alloc | apply pw_below_drewN | apply below_drew1) | exact HB.out)⟩

/-! ### laws_zzFits2: function 16 -/
def laws_zzFits2.l0 : Nat → List ByteArray → Int → Int → Option (Bool)
  | 0, _, _, _ => none
  | k + 1, x8, x9, x10 => if x10 < x9 then (if 0 ≤ x10 then (if x10 < (x8.length : Int) then (if ((rdOf ByteArray.empty x8 x10).size : Int) > 2147483647 then (some false) else (laws_zzFits2.l0 k x8 x9 (wrap64 (x10 + 1)))) else (none)) else (none)) else (some true)
def laws_zzFits2.f (k : Nat) (l0 : List ByteArray) : Option (Bool) := if (l0.length : Int) > 2147483647 then (some false) else (laws_zzFits2.l0 k l0 (l0.length : Int) 0)
theorem laws_zzFits2.mono_l : ∀ k, (∀ y0 y1 y2, LeO (laws_zzFits2.l0 k y0 y1 y2) (laws_zzFits2.l0 (k + 1) y0 y1 y2))
  | 0 => fun _ _ _ r h => by simp [laws_zzFits2.l0] at h
  | k + 1 => by
    have ih0 := laws_zzFits2.mono_l k
    · intro y0 y1 y2
      unfold laws_zzFits2.l0
      repeat' first
      | (with_reducible exact ih0 _ _ _)
      | (with_reducible exact LeO.refl _)
      | (with_reducible exact LeO.none _)
      | (with_reducible refine LeO.ite ?_ ?_)
      | (with_reducible refine LeO.bind ?_ (fun _ => ?_))
      | exact ih0 _ _ _
      | exact LeO.none _
      | refine LeO.ite ?_ ?_
      | refine LeO.bind ?_ (fun _ => ?_)
theorem laws_zzFits2.mono : ∀ a0 k, LeO (laws_zzFits2.f k a0) (laws_zzFits2.f (k + 1) a0) := by
  intro a0 k
  have ih0 := laws_zzFits2.mono_l k
  unfold laws_zzFits2.f
  repeat' first
      | (with_reducible exact ih0 _ _ _)
      | (with_reducible exact LeO.refl _)
      | (with_reducible exact LeO.none _)
      | (with_reducible refine LeO.ite ?_ ?_)
      | (with_reducible refine LeO.bind ?_ (fun _ => ?_))
      | exact ih0 _ _ _
      | exact LeO.none _
      | refine LeO.ite ?_ ?_
      | refine LeO.bind ?_ (fun _ => ?_)
set_option maxHeartbeats 8000000 in
set_option maxRecDepth 100000 in
theorem laws_zzFits2.calls (k : Nat) (A0 : Option Addr) (c0 : Nat) (l0 : List ByteArray) (r : Bool) (w : World) (hr0 : Kd.C Kd.string w A0 l0.length l0) (hc0 : l0.length ≤ c0) (h : laws_zzFits2.f k l0 = some r) :
    Calls Tryd.prog 16 #[.slice A0 l0.length c0] w fun e w' => e = .returned (.bool r) ∧ Drawn0 w w' := by
  have HR0 := Aside0.mk hr0
  have HC0 := Aside0.mk hc0
  clear hr0 hc0
  have H : (if (l0.length : Int) > 2147483647 then (some false) else (laws_zzFits2.l0 k l0 (l0.length : Int) 0)) = some r := h
  clear h
  by_cases c2 : (l0.length : Int) > 2147483647
  · rw [if_pos c2] at H
    have c2b0 : decide (2147483647 < (l0.length : Int)) = true := decide_eq_true c2
    have c2b1 : decide (2147483647 < l0.length) = true := decide_eq_true (by omega)
    clear c2
    obtain rfl := Option.some.inj H
    go_enter Tryd.func16, Tryd.ntmps16
    go_wp2
    go_ret
    exact ⟨by first | rfl | (simp; done) | (simp [*]; done), by repeat (first | exact Drawn0.refl _ | apply Drawn0.step)⟩
  · rw [if_neg c2] at H
    have c2b0 : decide (2147483647 < (l0.length : Int)) = false := decide_eq_false c2
    have c2b1 : decide (2147483647 < l0.length) = false := decide_eq_false (by omega)
    clear c2
    have H' := Aside0.mk H
    clear H
    go_enter Tryd.func16, Tryd.ntmps16
    go_wp2
    go_loopg [10] k (fun kq v10 w' => ∃ (x10_1 : Int), v10 = .int .i64 x10_1 ∧ Aside0 (laws_zzFits2.l0 kq l0 (l0.length : Int) x10_1 = some r) ∧ Aside0 (kq ≤ k) ∧ Drawn0 w w')
    case atStart => exact ⟨(0), (by first | rfl | (simp; done) | (simp [*]; done)), H', ⟨Nat.le_refl _⟩, by repeat (first | exact Drawn0.refl _ | apply Drawn0.step)⟩
    case round =>
      clear H'
      try clear c1
      try clear c2
      try clear c2b0
      try clear c2b1
      try clear p2
      obtain ⟨x10_1, rfl, HA, HK1, ⟨m1, rfl⟩⟩ := hrel
      cases gk with
      | zero => exact absurd HA.out (by simp [laws_zzFits2.l0])
      | succ k1 =>
        have H := HA.out
        clear HA
        simp only [laws_zzFits2.l0] at H
        by_cases c3 : x10_1 < (l0.length : Int)
        · rw [if_pos c3] at H
          have c3b0 : decide (x10_1 < (l0.length : Int)) = true := decide_eq_true c3
          clear c3
          by_cases c4 : 0 ≤ x10_1
          · rw [if_pos c4] at H
            have c4b0 : decide (0 ≤ x10_1) = true := decide_eq_true c4
            clear c4
            by_cases c5 : x10_1 < (l0.length : Int)
            · rw [if_pos c5] at H
              have c5b0 : decide (x10_1 < (l0.length : Int)) = true := decide_eq_true c5
              clear c5
              by_cases c6 : ((rdOf ByteArray.empty l0 x10_1).size : Int) > 2147483647
              · rw [if_pos c6] at H
                have c6b0 : decide (2147483647 < ((rdOf ByteArray.empty l0 x10_1).size : Int)) = true := decide_eq_true c6
                have c6b1 : decide (2147483647 < (rdOf ByteArray.empty l0 x10_1).size) = true := decide_eq_true (by omega)
                clear c6
                obtain rfl := Option.some.inj H
                have p284 : 0 ≤ (x10_1 : Int) := of_decide_eq_true (by first | (with_reducible assumption) | assumption)
                have q284 : x10_1 < (l0.length : Int) := of_decide_eq_true (by first | (with_reducible assumption) | assumption)
                obtain ⟨ad284, e284, hx284_0⟩ := Kd.at_string HR0.out x10_1 p284 q284
                cases e284
                replace p284 := eq_true p284
                replace q284 := eq_true q284
                go_wp2
                go_ret
                exact ⟨by first | rfl | (simp; done) | (simp [*]; done), by repeat (first | exact Drawn0.refl _ | apply Drawn0.step)⟩
              · rw [if_neg c6] at H
                have c6b0 : decide (2147483647 < ((rdOf ByteArray.empty l0 x10_1).size : Int)) = false := decide_eq_false c6
                have c6b1 : decide (2147483647 < (rdOf ByteArray.empty l0 x10_1).size) = false := decide_eq_false (by omega)
                clear c6
                have H' := Aside0.mk H
                clear H
                have p284 : 0 ≤ (x10_1 : Int) := of_decide_eq_true (by first | (with_reducible assumption) | assumption)
                have q284 : x10_1 < (l0.length : Int) := of_decide_eq_true (by first | (with_reducible assumption) | assumption)
                obtain ⟨ad284, e284, hx284_0⟩ := Kd.at_string HR0.out x10_1 p284 q284
                cases e284
                replace p284 := eq_true p284
                replace q284 := eq_true q284
                go_wp2
                go_roundg k1
                case measure => have := HK1.out; omega
                case rel => exact ⟨(wrap64 (x10_1 + 1)), (by first | rfl | (simp; done) | (simp [*]; done)), H', ⟨by have := HK1.out; omega⟩, by repeat (first | exact Drawn0.refl _ | apply Drawn0.step)⟩
            · rw [if_neg c5] at H
              exact absurd H (by simp)
          · rw [if_neg c4] at H
            exact absurd H (by simp)
        · rw [if_neg c3] at H
          have c3b0 : decide (x10_1 < (l0.length : Int)) = false := decide_eq_false c3
          clear c3
          obtain rfl := Option.some.inj H
          go_wp2
          go_ret
          exact ⟨by first | rfl | (simp; done) | (simp [*]; done), by repeat (first | exact Drawn0.refl _ | apply Drawn0.step)⟩

end Go.Proofs.YtblmbbllfiigmaaDoor.PAll
