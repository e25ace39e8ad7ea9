-- Printed by a program, out of the translation.
import Derived.Test.YtblmbbllfiigmaaDoorPAllx0
import Derived.Test.YtblmbbllfiigmaaDoorPAllx1
import Derived.Test.YtblmbbllfiigmaaDoorPAllx3
import Derived.Test.YtblmbbllfiigmaaDoorMone
namespace Go.Proofs.YtblmbbllfiigmaaDoor.PAll
open Go.RowKit Go.Proofs.YtblmbbllfiigmaaDoorW.PrintWords Go.Proofs.YtblmbbllfiigmaaDoorW.PrintLast Go.Proofs.YtblmbbllfiigmaaDoorW.PrintMore
attribute [local go_sem] max2_int min2_int max_two min_two max_three min_three max_four min_four   -- for this text's walks alone
set_option linter.unusedVariables false
set_option linter.unusedSimpArgs false

theorem cell_far {W : World} {p a : Addr} (h : a.block ≠ p.block) (u : Value) : (W.setCell p u).cell? a = W.cell? a := Go.Proofs.YtblmbbllfiigmaaDoorW.PrintWords.cell_far h u
/-! ### laws_FnOldPieces: function 5 -/
noncomputable section
mutual
def laws_FnOldPieces.j0 : Nat → ByteArray → ByteArray → Int → Bool → Option (Bool)
 | 0, _, _, _, _ => none
 | k + 1, x0, x1, x2, x23 => if x23 = true then (some true) else ((laws_light.f k (([x0, x1] : List ByteArray)) x2).bind fun t185 => (if t185 = true then ((laws_whole.f k 11 0 x0).bind fun t186 => ((laws_record.f k 0 t186).bind fun t187 => ((laws_pops.f k (([t187] : List ByteArray)) 1).bind fun t191 => ((laws_cutting.f k 11 0 x0 x2).bind fun t194 => (laws_FnOldPieces.l0 k x0 x1 t191 t194 t194 (t194.length : Int) 0))))) else (some true)))
def laws_FnOldPieces.l0 : Nat → ByteArray → ByteArray → List (S40) → List ByteArray → List ByteArray → Int → Int → Option (Bool)
 | 0, _, _, _, _, _, _, _ => none
 | k + 1, x0, x1, x7, x8, x38, x39, x40 => if x40 < x39 then (if 0 ≤ x40 then (if x40 < (x38.length : Int) then ((laws_record.f k (wrap64 (x40 + 1)) (rdOf ByteArray.empty x38 x40)).bind fun t198 => ((some (([(⟨true, t198⟩ : S40), (⟨false, (⟨#[]⟩ : ByteArray)⟩ : S40)] : List (S40)) : List (S40))).bind fun y199 => (if x7.length + y199.length < 5864062014805 then (laws_FnOldPieces.l0 k x0 x1 (x7 ++ y199) x8 x38 x39 (wrap64 (x40 + 1))) else (none)))) else (none)) else (none)) else ((laws_whole.f k 11 1 x1).bind fun t205 => ((laws_record.f k 99 t205).bind fun t206 => ((laws_pops.f k (([t206] : List ByteArray)) 1).bind fun t210 => (if x7.length + t210.length < 5864062014805 then ((some (x7 ++ t210 : List (S40))).bind fun y213 => ((impl_Fragments.f k y213).bind fun t216 => (if (t216.length : Int) = (y213.length : Int) then (if 1 < (t216.length : Int) then (if ((rd_T43 t216 1).f3 = true) then ((laws_whole.f k 11 0 x0).bind fun t221 => (laws_FnOldPieces.j2 k x1 x8 t216 (((rd_T43 t216 1).f4).toList != t221.toList))) else (laws_FnOldPieces.j2 k x1 x8 t216 true)) else (none)) else (laws_FnOldPieces.j2 k x1 x8 t216 true)))) else (none)))))
def laws_FnOldPieces.j2 : Nat → ByteArray → List ByteArray → List (S43) → Bool → Option (Bool)
 | 0, _, _, _, _ => none
 | k + 1, x1, x8, x11, x84 => if x84 = true then (none) else (laws_FnOldPieces.l1 k x1 x11 (x8.length : Int) 0)
def laws_FnOldPieces.l1 : Nat → ByteArray → List (S43) → Int → Int → Option (Bool)
 | 0, _, _, _, _ => none
 | k + 1, x1, x11, x86, x87 => if x87 < x86 then (if 0 ≤ (wrap64 (2 + (wrap64 (2 * x87)))) then (if (wrap64 (2 + (wrap64 (2 * x87)))) < (x11.length : Int) then (if 0 ≤ (wrap64 (3 + (wrap64 (2 * x87)))) then (if (wrap64 (3 + (wrap64 (2 * x87)))) < (x11.length : Int) then (if (rd_T43 x11 (wrap64 (2 + (wrap64 (2 * x87))))).f2 = true then (none) else (if (((rd_T43 x11 (wrap64 (2 + (wrap64 (2 * x87))))).f1) != (x87 == 0)) = true then (none) else (if (rd_T43 x11 (wrap64 (3 + (wrap64 (2 * x87))))).f3 = true then (none) else (if ((rd_T43 x11 (wrap64 (2 + (wrap64 (2 * x87))))).f6) = 0 then (if ((rd_T43 x11 (wrap64 (3 + (wrap64 (2 * x87))))).f6) = 0 then (laws_FnOldPieces.l1 k x1 x11 x86 (wrap64 (x87 + 1))) else (none)) else (none))))) else (none)) else (none)) else (none)) else (none)) else (if 0 ≤ (wrap64 ((x11.length : Int) - 1)) then (if (wrap64 ((x11.length : Int) - 1)) < (x11.length : Int) then (if (rd_T43 x11 (wrap64 ((x11.length : Int) - 1))).f3 = true then ((laws_whole.f k 11 1 x1).bind fun t228 => (if ((rd_T43 x11 (wrap64 ((x11.length : Int) - 1))).f4).toList = t228.toList then (some (((rd_T43 x11 (wrap64 ((x11.length : Int) - 1))).f6) == 0)) else (none))) else (none)) else (none)) else (none))
end
def laws_FnOldPieces.f (k : Nat) (a0 : ByteArray) (a1 : ByteArray) (a2 : Int) : Option (Bool) := if (a0.size : Int) > 2147483647 then (laws_FnOldPieces.j0 k a0 a1 a2 true) else (laws_FnOldPieces.j0 k a0 a1 a2 (decide ((a1.size : Int) > 2147483647)))
end
def laws_FnOldPieces.T14 : Bool × List (List Nat × List Nat) := (true, [([], []), ([0], [0]), ([], []), ([2], [2]), ([1, 3], [1, 3]), ([4], [4]), ([5], [5]), ([6, 5], [5, 6]), ([7, 5], [5, 7]), ([8, 5], [5, 8]), ([9, 5], [5, 9]), ([5, 10], [5, 10]), ([11, 5], [11]), ([12], [12]), ([13, 12], [12, 13]), ([14, 12], [12, 14]), ([15, 12], [12, 15]), ([12], [12]), ([17, 12, 12], [12, 17]), ([16, 18, 12], [12, 16, 18]), ([12, 19], [12, 19])])
def laws_FnOldPieces.B14 : List Nat := [0, 1, 0, 4, 15, 31, 63, 127, 255, 511, 1023, 2047, 4095, 8191, 16383, 32767, 65535, 8191, 139263, 524287, 1048575]
theorem laws_FnOldPieces.tab14 : rtab .any (opsOf Tryd.f5 14) = laws_FnOldPieces.T14 := by kernel_rfl
theorem laws_FnOldPieces.bits14 : waitsOk laws_FnOldPieces.T14.2 laws_FnOldPieces.B14 = true := by kernel_rfl
def laws_FnOldPieces.T19 : Bool × List (List Nat × List Nat) := (true, [([], []), ([], []), ([1], [1]), ([2], [2]), ([0, 3], [0, 3]), ([4], [4]), ([], []), ([], []), ([7], [7]), ([8], [8]), ([6, 9], [6, 9]), ([10], [10]), ([], []), ([], []), ([12, 5, 0, 1, 2, 3, 4, 5, 12, 13], [5, 12]), ([13, 11, 14, 0, 1, 2, 3, 4, 5, 6, 7, 8, 9, 10, 11, 12, 13, 14], [11, 13])])
def laws_FnOldPieces.B19 : List Nat := [0, 0, 2, 6, 15, 31, 0, 0, 128, 384, 960, 1984, 0, 0, 12351, 32767]
theorem laws_FnOldPieces.tab19 : rtab .any (opsOf Tryd.f5 19) = laws_FnOldPieces.T19 := by kernel_rfl
theorem laws_FnOldPieces.bits19 : waitsOk laws_FnOldPieces.T19.2 laws_FnOldPieces.B19 = true := by kernel_rfl
def laws_FnOldPieces.T24 : Bool × List (List Nat × List Nat) := (true, [([], []), ([0], [0]), ([1], [1]), ([2], [2]), ([3, 2], [2, 3]), ([2], [2]), ([5, 2, 2], [2, 5]), ([4, 6, 2], [2, 4, 6]), ([2, 7], [2, 7]), ([8, 6], [8]), ([9], [9]), ([10, 9], [9, 10]), ([11, 9], [9, 11]), ([9, 12], [9, 12]), ([13, 9, 0, 1, 2, 3, 4, 5, 6, 7, 8, 9, 10, 11, 12, 13], [13])])
def laws_FnOldPieces.B24 : List Nat := [0, 1, 3, 7, 15, 7, 39, 127, 255, 511, 1023, 2047, 4095, 8191, 16383]
theorem laws_FnOldPieces.tab24 : rtab .any (opsOf Tryd.f5 24) = laws_FnOldPieces.T24 := by kernel_rfl
theorem laws_FnOldPieces.bits24 : waitsOk laws_FnOldPieces.T24.2 laws_FnOldPieces.B24 = true := by kernel_rfl
theorem old_inv {k : Nat} {a1 : ByteArray} {told : List S43} {n x : Int} {r : Bool} (h : laws_FnOldPieces.l1 (k + 1) a1 told n x = some r) :
    (x < n ∧ ∃ i2 i3, wrap64 (2 + (wrap64 (2 * x))) = i2 ∧ wrap64 (3 + (wrap64 (2 * x))) = i3 ∧ 0 ≤ i2 ∧ i2 < (told.length : Int) ∧ 0 ≤ i3 ∧ i3 < (told.length : Int) ∧ (rd_T43 told i2).f2 = false ∧ (rd_T43 told i2).f1 = (x == 0) ∧ (rd_T43 told i3).f3 = false ∧ (rd_T43 told i2).f6 = 0 ∧ (rd_T43 told i3).f6 = 0 ∧ laws_FnOldPieces.l1 k a1 told n (wrap64 (x + 1)) = some r) ∨
    (¬ x < n ∧ ∃ il, wrap64 ((told.length : Int) - 1) = il ∧ 0 ≤ il ∧ il < (told.length : Int) ∧ (rd_T43 told il).f3 = true ∧ ∃ t, laws_whole.f k 11 1 a1 = some t ∧ (rd_T43 told il).f4.toList = t.toList ∧ r = ((rd_T43 told il).f6 == 0)) := by
  simp only [laws_FnOldPieces.l1] at h
  by_cases c : x < n
  · rw [if_pos c] at h
    left
    refine ⟨c, _, _, rfl, rfl, ?_⟩
    generalize wrap64 (2 + (wrap64 (2 * x))) = i2 at *
    generalize wrap64 (3 + (wrap64 (2 * x))) = i3 at *
    by_cases c1 : 0 ≤ i2
    · rw [if_pos c1] at h
      by_cases c2 : i2 < (told.length : Int)
      · rw [if_pos c2] at h
        by_cases c3 : 0 ≤ i3
        · rw [if_pos c3] at h
          by_cases c4 : i3 < (told.length : Int)
          · rw [if_pos c4] at h
            cases c5 : (rd_T43 told i2).f2 with
            | true => rw [c5] at h; simp at h
            | false =>
              rw [c5, if_neg (by simp)] at h
              by_cases c6 : ((rd_T43 told i2).f1 != (x == 0)) = true
              · rw [if_pos c6] at h; cases h
              · rw [if_neg c6] at h
                cases c7 : (rd_T43 told i3).f3 with
                | true => rw [c7] at h; simp at h
                | false =>
                  rw [c7, if_neg (by simp)] at h
                  by_cases c8 : (rd_T43 told i2).f6 = 0
                  · rw [if_pos c8] at h
                    by_cases c9 : (rd_T43 told i3).f6 = 0
                    · rw [if_pos c9] at h
                      exact ⟨c1, c2, c3, c4, rfl, by simpa using c6, rfl, c8, c9, h⟩
                    · rw [if_neg c9] at h; cases h
                  · rw [if_neg c8] at h; cases h
          · rw [if_neg c4] at h; cases h
        · rw [if_neg c3] at h; cases h
      · rw [if_neg c2] at h; cases h
    · rw [if_neg c1] at h; cases h
  · rw [if_neg c] at h
    right
    refine ⟨c, _, rfl, ?_⟩
    generalize wrap64 ((told.length : Int) - 1) = il at *
    by_cases c1 : 0 ≤ il
    · rw [if_pos c1] at h
      by_cases c2 : il < (told.length : Int)
      · rw [if_pos c2] at h
        cases c3 : (rd_T43 told il).f3 with
        | false => rw [c3] at h; simp at h
        | true =>
          rw [c3, if_pos rfl] at h
          replace h := Option.bind_eq_some_iff.mp h
          obtain ⟨t, ht, h⟩ := h
          by_cases c4 : (rd_T43 told il).f4.toList = t.toList
          · rw [if_pos c4] at h
            exact ⟨c1, c2, rfl, t, ht, c4, (Option.some.inj h).symm⟩
          · rw [if_neg c4] at h; cases h
      · rw [if_neg c2] at h; cases h
    · rw [if_neg c1] at h; cases h
set_option maxHeartbeats 200000000 in
set_option maxRecDepth 100000 in
theorem laws_FnOldPieces.calls (k : Nat) (a0 : ByteArray) (a1 : ByteArray) (a2 : Int) (r : Bool) (w : World) (h : laws_FnOldPieces.f k a0 a1 a2 = some r) (hgl : GL w) :
  Calls Tryd.prog 5 #[.string a0, .string a1, .int .i64 a2] w fun e w' => e = .returned (.bool r) ∧ Below w.heap.size w w' := by
 have HGL := Aside0.mk hgl
 clear hgl
 have hu40 := Tryd.underlying40
 have hu43 := Tryd.underlying43
 have HB := Aside0.mk (Below.refl w.heap.size w)
 have H : (if (a0.size : Int) > 2147483647 then (laws_FnOldPieces.j0 k a0 a1 a2 true) else (laws_FnOldPieces.j0 k a0 a1 a2 (decide ((a1.size : Int) > 2147483647)))) = some r := h
 clear h
 have HC4 := Aside0.mk H
 clear H
 go_enter Tryd.func5, Tryd.ntmps5
 go_upto_region 1 with (fail)
 go_cut [23] (fun v23 wc => ∃ (kq : Nat) (x23_3 : Bool), v23 = .bool x23_3 ∧ Aside0 (laws_FnOldPieces.j0 kq a0 a1 a2 x23_3 = some r) ∧ Aside0 (kq ≤ k) ∧ Aside0 (Below w.heap.size w wc))
 case first =>
  have H := HC4.out
  clear HC4
  by_cases c5 : (a0.size : Int) > 2147483647
  ·rw [if_pos c5] at H
   have c5b0 : decide (2147483647 < (a0.size : Int)) = true := decide_eq_true c5
   have c5b1 : decide (2147483647 < a0.size) = true := decide_eq_true (by omega)
   clear c5
   (first | rw [c5b0] | (simp only [i64_w, i32_w]; rw [c5b0]) | skip)
   have H' := Aside0.mk H
   clear H
   go_wp2
   go_meet
   case rel => exact ⟨_, (true), (by first | rfl | (simp; done) | (simp [*]; done)), H', ⟨by first | omega | exact Nat.le_refl _⟩, ⟨by repeat (first | (with_reducible first | exact HB.out | apply below_alloc | apply pw_below_drewN | apply below_drew1) | exact HB.out)⟩⟩
  ·rw [if_neg c5] at H
   have c5b0 : decide (2147483647 < (a0.size : Int)) = false := decide_eq_false c5
   have c5b1 : decide (2147483647 < a0.size) = false := decide_eq_false (by omega)
   clear c5
   (first | rw [c5b0] | (simp only [i64_w, i32_w]; rw [c5b0]) | skip)
   have H' := Aside0.mk H
   clear H
   go_wp2
   go_meet
   case rel => exact ⟨_, (decide ((a1.size : Int) > 2147483647)), (by first | rfl | (simp; done) | (simp [*]; done)), H', ⟨by first | omega | exact Nat.le_refl _⟩, ⟨by repeat (first | (with_reducible first | exact HB.out | apply below_alloc | apply pw_below_drewN | apply below_drew1) | exact HB.out)⟩⟩
 case rest =>
  clear HC4
  try clear p2
  try clear c5
  try clear c5b0
  try clear c5b1
  obtain ⟨kq, x23_3, rfl, HA, HJ3, HB⟩ := hcut
  cases kq with
  | zero => exact absurd HA.out (by simp [laws_FnOldPieces.j0])
  | succ kj3 =>
   have H := HA.out
   clear HA
   simp only [laws_FnOldPieces.j0] at H
   by_cases c6 : x23_3 = true
   ·subst c6
    have H1 : (some true) = some r := by rw [if_pos rfl] at H; exact H
    clear H
    have H := H1
    clear H1
    obtain rfl := Option.some.inj H
    go_wp2
    go_ret
    exact ⟨by first | rfl | (simp [errW_none, errW_some] <;> rfl) | (simp [*, errW_none, errW_some] <;> rfl), by repeat (first | (with_reducible first | exact HB.out | apply below_alloc | apply pw_below_drewN | apply below_drew1) | exact HB.out)⟩
   ·replace c6 := Bool.eq_false_iff.mpr c6
    subst c6
    have H1 : ((laws_light.f kj3 (([a0, a1] : List ByteArray)) a2).bind fun t185 => (if t185 = true then ((laws_whole.f kj3 11 0 a0).bind fun t186 => ((laws_record.f kj3 0 t186).bind fun t187 => ((laws_pops.f kj3 (([t187] : List ByteArray)) 1).bind fun t191 => ((laws_cutting.f kj3 11 0 a0 a2).bind fun t194 => (laws_FnOldPieces.l0 kj3 a0 a1 t191 t194 t194 (t194.length : Int) 0))))) else (some true))) = some r := by rw [if_neg (show ¬ (false = true) by decide)] at H; exact H
    clear H
    have H := H1
    clear H1
    obtain ⟨y182, hy182⟩ : ∃ y_ : List ByteArray, y_ = (([a0, a1] : List ByteArray)) := ⟨_, rfl⟩
    replace H : ((laws_light.f kj3 y182 a2).bind fun t185 => (if t185 = true then ((laws_whole.f kj3 11 0 a0).bind fun t186 => ((laws_record.f kj3 0 t186).bind fun t187 => ((laws_pops.f kj3 (([t187] : List ByteArray)) 1).bind fun t191 => ((laws_cutting.f kj3 11 0 a0 a2).bind fun t194 => (laws_FnOldPieces.l0 kj3 a0 a1 t191 t194 t194 (t194.length : Int) 0))))) else (some true))) = some r := by first | (rw [hy182]; with_reducible exact H) | (have H2_ := (Option.bind_some _ _).symm.trans H; rw [hy182]; with_reducible exact H2_) | (have H2_ := (Option.bind_some _ _).symm.trans H; with_reducible exact H2_) | with_reducible exact H | (rw [hy182]; exact H) | exact H
    have Ny182 := Aside0.mk hy182
    clear hy182
    replace H := Option.bind_eq_some_iff.mp H
    obtain ⟨t185, A70, H⟩ := H
    replace H : (if t185 = true then ((laws_whole.f kj3 11 0 a0).bind fun t186 => ((laws_record.f kj3 0 t186).bind fun t187 => ((laws_pops.f kj3 (([t187] : List ByteArray)) 1).bind fun t191 => ((laws_cutting.f kj3 11 0 a0 a2).bind fun t194 => (laws_FnOldPieces.l0 kj3 a0 a1 t191 t194 t194 (t194.length : Int) 0))))) else (some true)) = some r := H
    have A7 := Aside0.mk A70
    clear A70
    by_cases c8 : t185 = true
    ·subst c8
     have H1 : ((laws_whole.f kj3 11 0 a0).bind fun t186 => ((laws_record.f kj3 0 t186).bind fun t187 => ((laws_pops.f kj3 (([t187] : List ByteArray)) 1).bind fun t191 => ((laws_cutting.f kj3 11 0 a0 a2).bind fun t194 => (laws_FnOldPieces.l0 kj3 a0 a1 t191 t194 t194 (t194.length : Int) 0))))) = some r := by rw [if_pos rfl] at H; exact H
     clear H
     have H := H1
     clear H1
     replace H := Option.bind_eq_some_iff.mp H
     obtain ⟨t186, A90, H⟩ := H
     replace H : ((laws_record.f kj3 0 t186).bind fun t187 => ((laws_pops.f kj3 (([t187] : List ByteArray)) 1).bind fun t191 => ((laws_cutting.f kj3 11 0 a0 a2).bind fun t194 => (laws_FnOldPieces.l0 kj3 a0 a1 t191 t194 t194 (t194.length : Int) 0)))) = some r := H
     have A9 := Aside0.mk A90
     clear A90
     replace H := Option.bind_eq_some_iff.mp H
     obtain ⟨t187, A100, H⟩ := H
     replace H : ((laws_pops.f kj3 (([t187] : List ByteArray)) 1).bind fun t191 => ((laws_cutting.f kj3 11 0 a0 a2).bind fun t194 => (laws_FnOldPieces.l0 kj3 a0 a1 t191 t194 t194 (t194.length : Int) 0))) = some r := H
     have A10 := Aside0.mk A100
     clear A100
     obtain ⟨y188, hy188⟩ : ∃ y_ : List ByteArray, y_ = (([t187] : List ByteArray)) := ⟨_, rfl⟩
     replace H : ((laws_pops.f kj3 y188 1).bind fun t191 => ((laws_cutting.f kj3 11 0 a0 a2).bind fun t194 => (laws_FnOldPieces.l0 kj3 a0 a1 t191 t194 t194 (t194.length : Int) 0))) = some r := by first | (rw [hy188]; with_reducible exact H) | (have H2_ := (Option.bind_some _ _).symm.trans H; rw [hy188]; with_reducible exact H2_) | (have H2_ := (Option.bind_some _ _).symm.trans H; with_reducible exact H2_) | with_reducible exact H | (rw [hy188]; exact H) | exact H
     have Ny188 := Aside0.mk hy188
     clear hy188
     replace H := Option.bind_eq_some_iff.mp H
     obtain ⟨t191, A110, H⟩ := H
     replace H : ((laws_cutting.f kj3 11 0 a0 a2).bind fun t194 => (laws_FnOldPieces.l0 kj3 a0 a1 t191 t194 t194 (t194.length : Int) 0)) = some r := H
     have A11 := Aside0.mk A110
     clear A110
     replace H := Option.bind_eq_some_iff.mp H
     obtain ⟨t194, A120, H⟩ := H
     replace H : (laws_FnOldPieces.l0 kj3 a0 a1 t191 t194 t194 (t194.length : Int) 0) = some r := H
     have A12 := Aside0.mk A120
     clear A120
     have H' := Aside0.mk H
     clear H
     go_wp2_with (first | ((with_reducible refine gate_dst (N := 26) rfl ?_); (try (refine gate_guard (by rfl) ?_; dsimp only)); refine Kd.R_lit Kd.string _ 9 ?hg (N := 26) ?hd (xs := ([a0, a1] : List ByteArray)) (inner := [.string a0, .string a1]) (ok := fun _ => True) (okp := fun _ => True) ?hr ?hp (fun _ hk => hk) trivial (Below.refl _ _) (Nat.le_refl _) (by simp) ?_; (case hd => rfl); (case hg => rfl); (case hr => first | (go_simp; done) | (go_simp; rfl)); (case hp => exact (Reps.one (show Kd.M Kd.string _ _ _ a0 [.string a0] from rfl) (Reps.one (show Kd.M Kd.string _ _ _ a1 [.string a1] from rfl) (Reps.none _ _)))); intro v183 w13 ho14 hb hg_ hnew_; clear hg_ hnew_; (first | rw [← Ny182.out] at ho14 | (simp only [Int.reduceToNat] at ho14; rw [← Ny182.out] at ho14)); have n0_ := Aside0.mk (Kd.R_lower ho14 (below_size (by repeat (first | (with_reducible first | exact HB.out | apply below_alloc | apply pw_below_drewN | apply below_drew1) | exact HB.out)))); have n1_ := Aside0.mk (below_step (by repeat (first | (with_reducible first | exact HB.out | apply below_alloc | apply pw_below_drewN | apply below_drew1) | exact HB.out)) hb); clear HB; have HO184 := n0_; have HB := n1_; clear n0_ n1_; clear hb ho14; obtain ⟨Ao15, co15, eo15⟩ := Kd.R_slice HO184.out; subst eo15) | ((with_reducible refine gate_callee (f := 7) rfl ?_); refine goesL_ (some 28) rfl rfl Tryd.func7 (by kernel_rfl) rfl #[.slice Ao15 y182.length co15, .int .i64 a2] rfl (by (try simp only [List.map_toArray, List.map_cons, List.map_nil]); first | done | rfl | (simp only [List.length_drop, List.length_take]; rfl)) ?_; (with_reducible refine (laws_light.calls kj3 _ _ y182 a2 true _ ?side1 ?side2 A7.out).mono ?_); (case side1 => repeat (first | exact (Kd.R_reads' HO184.out).2.2 | (with_reducible refine Kd.C_alloc ?_ _) | (with_reducible refine Kd.C_drewN ?_ _) | (with_reducible refine Kd.C_drew ?_))); (case side2 => exact (Kd.R_reads' HO184.out).2.1); rintro e w' ⟨rfl, ⟨nd, rfl⟩⟩; refine ⟨_, rfl, ?_⟩) | ((with_reducible refine gate_callee (f := 15) rfl ?_); refine goesL_ (some 31) rfl rfl Tryd.func15 (by kernel_rfl) rfl #[.int .u8 11, .int .i64 0, .string a0] rfl (by (try simp only [List.map_toArray, List.map_cons, List.map_nil]); first | done | rfl | (simp only [List.length_drop, List.length_take]; rfl)) ?_; (with_reducible refine (laws_whole.calls kj3 11 0 a0 t186 _ A9.out).mono ?_); rintro e w16 ⟨rfl, hb⟩; refine ⟨_, rfl, ?_⟩; have n0_ := Aside0.mk (Kd.R_below (by (with_reducible repeat (first | apply Kd.R_alloc | apply Kd.R_drewN | apply Kd.R_drew)); exact HO184.out) hb); have n1_ := Aside0.mk (below_step (by repeat (first | (with_reducible first | exact HB.out | apply below_alloc | apply pw_below_drewN | apply below_drew1) | exact HB.out)) hb); clear HO184; clear HB; have HO184 := n0_; have HB := n1_; clear n0_ n1_; (try clear hb); (try clear hb2); (try clear hk); (try clear hi)) | ((with_reducible refine gate_callee (f := 10) rfl ?_); refine goesL_ (some 32) rfl rfl Tryd.func10 (by kernel_rfl) rfl #[.int .i64 0, .string t186] rfl (by (try simp only [List.map_toArray, List.map_cons, List.map_nil]); first | done | rfl | (simp only [List.length_drop, List.length_take]; rfl)) ?_; (with_reducible refine (laws_record.calls kj3 0 t186 t187 _ A10.out).mono ?_); rintro e w17 ⟨rfl, hb⟩; refine ⟨_, rfl, ?_⟩; have n0_ := Aside0.mk (Kd.R_below (by (with_reducible repeat (first | apply Kd.R_alloc | apply Kd.R_drewN | apply Kd.R_drew)); exact HO184.out) hb); have n1_ := Aside0.mk (below_step (by repeat (first | (with_reducible first | exact HB.out | apply below_alloc | apply pw_below_drewN | apply below_drew1) | exact HB.out)) hb); clear HO184; clear HB; have HO184 := n0_; have HB := n1_; clear n0_ n1_; (try clear hb); (try clear hb2); (try clear hk); (try clear hi)) | ((with_reducible refine gate_dst (N := 33) rfl ?_); (try (refine gate_guard (by rfl) ?_; dsimp only)); refine Kd.R_lit Kd.string _ 9 ?hg (N := 33) ?hd (xs := ([t187] : List ByteArray)) (inner := [.string t187]) (ok := fun _ => True) (okp := fun _ => True) ?hr ?hp (fun _ hk => hk) trivial (Below.refl _ _) (Nat.le_refl _) (by simp) ?_; (case hd => rfl); (case hg => rfl); (case hr => first | (go_simp; done) | (go_simp; rfl)); (case hp => exact (Reps.one (show Kd.M Kd.string _ _ _ t187 [.string t187] from rfl) (Reps.none _ _))); intro v189 w18 ho19 hb hg_ hnew_; clear hg_ hnew_; (first | rw [← Ny188.out] at ho19 | (simp only [Int.reduceToNat] at ho19; rw [← Ny188.out] at ho19)); have n0_ := Aside0.mk (Kd.R_elder' (by (with_reducible repeat (first | apply Kd.R_alloc | apply Kd.R_drewN | apply Kd.R_drew)); exact HO184.out) (Kd.R_base ho19) hb); have n1_ := Aside0.mk (Kd.R_lower (Kd.R_new' ho19 (Kd.R_lt (by (with_reducible repeat (first | apply Kd.R_alloc | apply Kd.R_drewN | apply Kd.R_drew)); exact HO184.out))) (below_size (by repeat (first | (with_reducible first | exact HB.out | apply below_alloc | apply pw_below_drewN | apply below_drew1) | exact HB.out)))); have n2_ := Aside0.mk (below_step (by repeat (first | (with_reducible first | exact HB.out | apply below_alloc | apply pw_below_drewN | apply below_drew1) | exact HB.out)) hb); clear HO184; clear HB; have HO184 := n0_; have HO190 := n1_; have HB := n2_; clear n0_ n1_ n2_; clear hb ho19; obtain ⟨Ao20, co20, eo20⟩ := Kd.R_slice HO190.out; subst eo20) | ((with_reducible refine gate_callee (f := 11) rfl ?_); refine goesL_ (some 34) rfl rfl Tryd.func11 (by kernel_rfl) rfl #[.slice Ao20 y188.length co20, .int .i64 1] rfl (by (try simp only [List.map_toArray, List.map_cons, List.map_nil]); first | done | rfl | (simp only [List.length_drop, List.length_take]; rfl)) ?_; (with_reducible refine (laws_pops.calls kj3 _ _ y188 1 t191 _ ?side1 ?side2 A11.out).mono ?_); (case side1 => repeat (first | exact (Kd.R_reads' HO190.out).2.2 | (with_reducible refine Kd.C_alloc ?_ _) | (with_reducible refine Kd.C_drewN ?_ _) | (with_reducible refine Kd.C_drew ?_))); (case side2 => exact (Kd.R_reads' HO190.out).2.1); rintro e w21 ⟨v192, rfl, ho0, hb⟩; refine ⟨_, rfl, ?_⟩; have n0_ := Aside0.mk (Kd.R_below (by (with_reducible repeat (first | apply Kd.R_alloc | apply Kd.R_drewN | apply Kd.R_drew)); exact HO184.out) hb); have n1_ := Aside0.mk (Kd.R_below (by (with_reducible repeat (first | apply Kd.R_alloc | apply Kd.R_drewN | apply Kd.R_drew)); exact HO190.out) hb); have n2_ := Aside0.mk (Kd.R_lower ho0 (below_size (by repeat (first | (with_reducible first | exact HB.out | apply below_alloc | apply pw_below_drewN | apply below_drew1) | exact HB.out)))); have n3_ := Aside0.mk (below_step (by repeat (first | (with_reducible first | exact HB.out | apply below_alloc | apply pw_below_drewN | apply below_drew1) | exact HB.out)) hb); clear HO184; clear HO190; clear HB; have HO184 := n0_; have HO190 := n1_; have HO193 := n2_; have HB := n3_; clear n0_ n1_ n2_ n3_; (try clear hb); (try clear hb2); (try clear hk); (try clear hi); (try clear ho0)) | ((with_reducible refine gate_callee (f := 8) rfl ?_); refine goesL_ (some 37) rfl rfl Tryd.func8 (by kernel_rfl) rfl #[.int .u8 11, .int .i64 0, .string a0, .int .i64 a2] rfl (by (try simp only [List.map_toArray, List.map_cons, List.map_nil]); first | done | rfl | (simp only [List.length_drop, List.length_take]; rfl)) ?_; (with_reducible refine (laws_cutting.calls kj3 11 0 a0 a2 t194 _ A12.out).mono ?_); rintro e w22 ⟨v195, rfl, ho0, hb⟩; refine ⟨_, rfl, ?_⟩; have n0_ := Aside0.mk (Kd.R_elder' (by (with_reducible repeat (first | apply Kd.R_alloc | apply Kd.R_drewN | apply Kd.R_drew)); exact HO184.out) (Kd.R_base ho0) hb); have n1_ := Aside0.mk (Kd.R_elder' (by (with_reducible repeat (first | apply Kd.R_alloc | apply Kd.R_drewN | apply Kd.R_drew)); exact HO190.out) (Kd.R_base ho0) hb); have n2_ := Aside0.mk (Kd.R_below (by (with_reducible repeat (first | apply Kd.R_alloc | apply Kd.R_drewN | apply Kd.R_drew)); exact HO193.out) hb); have n3_ := Aside0.mk (Kd.R_lower (Kd.R_new' (Kd.R_new' ho0 (Kd.R_lt (by (with_reducible repeat (first | apply Kd.R_alloc | apply Kd.R_drewN | apply Kd.R_drew)); exact HO184.out))) (Kd.R_lt (by (with_reducible repeat (first | apply Kd.R_alloc | apply Kd.R_drewN | apply Kd.R_drew)); exact HO190.out))) (below_size (by repeat (first | (with_reducible first | exact HB.out | apply below_alloc | apply pw_below_drewN | apply below_drew1) | exact HB.out)))); have n4_ := Aside0.mk (below_step (by repeat (first | (with_reducible first | exact HB.out | apply below_alloc | apply pw_below_drewN | apply below_drew1) | exact HB.out)) hb); clear HO184; clear HO190; clear HO193; clear HB; have HO184 := n0_; have HO190 := n1_; have HO193 := n2_; have HO196 := n3_; have HB := n4_; clear n0_ n1_ n2_ n3_ n4_; (try clear hb); (try clear hb2); (try clear hk); (try clear hi); (try clear ho0); obtain ⟨Ao23, co23, eo23⟩ := Kd.R_slice HO196.out; subst eo23))
     go_loopg [7, 40] kj3 (fun kq v7 v40 w' => ∃ (x7_2 : List (S40)) (x40_2 : Int), v40 = .int .i64 x40_2 ∧ Aside0 (laws_FnOldPieces.l0 kq a0 a1 x7_2 t194 t194 (t194.length : Int) x40_2 = some r) ∧ Aside0 (kq ≤ kj3) ∧ Aside0 (Kd.R k40 40 w' w.heap.size (fun _ => True) v7 x7_2) ∧ Aside0 (Kd.R Kd.string 9 w' w.heap.size (fun _ => True) (.slice Ao23 t194.length co23) t194) ∧ Aside0 (Kd.R Kd.string 9 w' w.heap.size (fun _ => True) (.slice Ao23 t194.length co23) t194) ∧ Aside0 (Below w.heap.size w w'))
     case atStart => exact ⟨(t191), (0), (by first | rfl | (simp; done) | (simp [*]; done)), H', ⟨Nat.le_refl _⟩, ⟨by (with_reducible repeat (first | apply Kd.R_alloc | apply Kd.R_drewN | apply Kd.R_drew)); exact HO193.out⟩, ⟨by (with_reducible repeat (first | apply Kd.R_alloc | apply Kd.R_drewN | apply Kd.R_drew)); exact Kd.R_mono HO196.out (fun _ hk => trivial)⟩, ⟨by (with_reducible repeat (first | apply Kd.R_alloc | apply Kd.R_drewN | apply Kd.R_drew)); exact Kd.R_mono HO196.out (fun _ hk => trivial)⟩, ⟨by repeat (first | (with_reducible first | exact HB.out | apply below_alloc | apply pw_below_drewN | apply below_drew1) | exact HB.out)⟩⟩
     case round =>
      clear H'
      try clear c1
      try clear p2
      try clear c5
      try clear c5b0
      try clear c5b1
      try clear c6
      try clear c7
      try clear c8
      try clear c10
      try clear c11
      try clear c15
      try clear p2
      obtain ⟨x7_2, x40_2, rfl, HA, HK2, HO_7, HO_8, HO_38, HB⟩ := hrel
      cases gk with
      | zero => exact absurd HA.out (by simp [laws_FnOldPieces.l0])
      | succ k2 =>
       have H := HA.out
       clear HA
       simp only [laws_FnOldPieces.l0] at H
       by_cases c24 : x40_2 < (t194.length : Int)
       ·rw [if_pos c24] at H
        have c24b0 : decide (x40_2 < (t194.length : Int)) = true := decide_eq_true c24
        clear c24
        by_cases c25 : 0 ≤ x40_2
        ·rw [if_pos c25] at H
         have c25b0 : decide (0 ≤ x40_2) = true := decide_eq_true c25
         clear c25
         by_cases c26 : x40_2 < (t194.length : Int)
         ·rw [if_pos c26] at H
          have c26b0 : decide (x40_2 < (t194.length : Int)) = true := decide_eq_true c26
          clear c26
          replace H := Option.bind_eq_some_iff.mp H
          obtain ⟨t198, A270, H⟩ := H
          replace H : ((some (([(⟨true, t198⟩ : S40), (⟨false, (⟨#[]⟩ : ByteArray)⟩ : S40)] : List (S40)) : List (S40))).bind fun y199 => (if x7_2.length + y199.length < 5864062014805 then (laws_FnOldPieces.l0 k2 a0 a1 (x7_2 ++ y199) t194 t194 (t194.length : Int) (wrap64 (x40_2 + 1))) else (none))) = some r := H
          have A27 := Aside0.mk A270
          clear A270
          obtain ⟨y199, hy199⟩ : ∃ y_ : List (S40), y_ = (([(⟨true, t198⟩ : S40), (⟨false, (⟨#[]⟩ : ByteArray)⟩ : S40)] : List (S40))) := ⟨_, rfl⟩
          replace H : (if x7_2.length + y199.length < 5864062014805 then (laws_FnOldPieces.l0 k2 a0 a1 (x7_2 ++ y199) t194 t194 (t194.length : Int) (wrap64 (x40_2 + 1))) else (none)) = some r := by first | (rw [hy199]; with_reducible exact H) | (have H2_ := (Option.bind_some _ _).symm.trans H; rw [hy199]; with_reducible exact H2_) | (have H2_ := (Option.bind_some _ _).symm.trans H; with_reducible exact H2_) | with_reducible exact H | (rw [hy199]; exact H) | exact H
          have Ny199 := Aside0.mk hy199
          clear hy199
          by_cases c28 : x7_2.length + y199.length < 5864062014805
          ·rw [if_pos c28] at H
           have LMc28 := Aside0.mk c28
           clear c28
           obtain ⟨y202, hy202⟩ : ∃ y_ : List (S40), y_ = (x7_2 ++ y199) := ⟨_, rfl⟩
           replace H : (laws_FnOldPieces.l0 k2 a0 a1 y202 t194 t194 (t194.length : Int) (wrap64 (x40_2 + 1))) = some r := by first | (rw [hy202]; with_reducible exact H) | (have H2_ := (Option.bind_some _ _).symm.trans H; rw [hy202]; with_reducible exact H2_) | (have H2_ := (Option.bind_some _ _).symm.trans H; with_reducible exact H2_) | with_reducible exact H | (rw [hy202]; exact H) | exact H
           have Ny202 := Aside0.mk hy202
           clear hy202
           have H' := Aside0.mk H
           clear H
           have p197 : 0 ≤ (x40_2 : Int) := of_decide_eq_true (by first | (with_reducible assumption) | assumption)
           have q197 : x40_2 < (t194.length : Int) := of_decide_eq_true (by first | (with_reducible assumption) | assumption)
           obtain ⟨ad197, e197, hx197_0⟩ := Kd.at_string (Kd.R_reads' HO_38.out).2.2 x40_2 p197 q197
           cases e197
           replace p197 := eq_true p197
           replace q197 := eq_true q197
           go_wp2_with (first | ((with_reducible refine gate_callee (f := 10) rfl ?_); refine goesL_ (some 49) rfl rfl Tryd.func10 (by kernel_rfl) rfl #[.int .i64 (wrap64 (x40_2 + 1)), .string (rdOf ByteArray.empty t194 x40_2)] rfl (by (try simp only [List.map_toArray, List.map_cons, List.map_nil]); first | done | rfl | (simp only [List.length_drop, List.length_take]; rfl)) ?_; (with_reducible refine (laws_record.calls k2 (wrap64 (x40_2 + 1)) (rdOf ByteArray.empty t194 x40_2) t198 _ A27.out).mono ?_); rintro e w29 ⟨rfl, hb⟩; refine ⟨_, rfl, ?_⟩; have n0_ := Aside0.mk (Kd.R_below (by (with_reducible repeat (first | apply Kd.R_alloc | apply Kd.R_drewN | apply Kd.R_drew)); exact HO_7.out) hb); have n1_ := Aside0.mk (Kd.R_below (by (with_reducible repeat (first | apply Kd.R_alloc | apply Kd.R_drewN | apply Kd.R_drew)); exact HO_8.out) hb); have n2_ := Aside0.mk (Kd.R_below (by (with_reducible repeat (first | apply Kd.R_alloc | apply Kd.R_drewN | apply Kd.R_drew)); exact HO_38.out) hb); have n3_ := Aside0.mk (below_step (by repeat (first | (with_reducible first | exact HB.out | apply below_alloc | apply pw_below_drewN | apply below_drew1) | exact HB.out)) hb); clear HO_7; clear HO_8; clear HO_38; clear HB; have HO_7 := n0_; have HO_8 := n1_; have HO_38 := n2_; have HB := n3_; clear n0_ n1_ n2_ n3_; (try clear hb); (try clear hb2); (try clear hk); (try clear hi)) | ((with_reducible refine gate_dst (N := 52) rfl ?_); (try (refine gate_guard (by rfl) ?_; dsimp only)); refine Kd.R_lit k40 _ 40 ?hg (N := 52) ?hd (xs := ([(⟨true, t198⟩ : S40), (⟨false, (⟨#[]⟩ : ByteArray)⟩ : S40)] : List (S40))) (inner := [.bool true, .string t198, .bool false, .string (⟨#[]⟩ : ByteArray)]) (ok := fun _ => True) (okp := fun _ => True) ?hr ?hp (fun _ hk => hk) trivial (Below.refl _ _) (Nat.le_refl _) (by simp) ?_; (case hd => rfl); (case hg => rfl); (case hr => first | (go_simp; done) | (go_simp; rfl)); (case hp => exact (Reps.c2 (show Kd.M k40 _ _ _ (⟨true, t198⟩ : S40) [.bool true, .string t198] from (k40_mkM _ _ _ (⟨true, t198⟩ : S40) )) (Reps.c2 (show Kd.M k40 _ _ _ (⟨false, (⟨#[]⟩ : ByteArray)⟩ : S40) [.bool false, .string (⟨#[]⟩ : ByteArray)] from (k40_mkM _ _ _ (⟨false, (⟨#[]⟩ : ByteArray)⟩ : S40) )) (Reps.none _ _)))); intro v200 w30 ho31 hb hg_ hnew_; clear hg_ hnew_; (first | rw [← Ny199.out] at ho31 | (simp only [Int.reduceToNat] at ho31; rw [← Ny199.out] at ho31)); have n0_ := Aside0.mk (Kd.R_elder' (by (with_reducible repeat (first | apply Kd.R_alloc | apply Kd.R_drewN | apply Kd.R_drew)); exact HO_7.out) (Kd.R_base ho31) hb); have n1_ := Aside0.mk (Kd.R_below (by (with_reducible repeat (first | apply Kd.R_alloc | apply Kd.R_drewN | apply Kd.R_drew)); exact HO_8.out) hb); have n2_ := Aside0.mk (Kd.R_below (by (with_reducible repeat (first | apply Kd.R_alloc | apply Kd.R_drewN | apply Kd.R_drew)); exact HO_38.out) hb); have n3_ := Aside0.mk (Kd.R_lower (Kd.R_new' ho31 (Kd.R_lt (by (with_reducible repeat (first | apply Kd.R_alloc | apply Kd.R_drewN | apply Kd.R_drew)); exact HO_7.out))) (below_size (by repeat (first | (with_reducible first | exact HB.out | apply below_alloc | apply pw_below_drewN | apply below_drew1) | exact HB.out)))); have n4_ := Aside0.mk (below_step (by repeat (first | (with_reducible first | exact HB.out | apply below_alloc | apply pw_below_drewN | apply below_drew1) | exact HB.out)) hb); clear HO_7; clear HO_8; clear HO_38; clear HB; have HO_7 := n0_; have HO_8 := n1_; have HO_38 := n2_; have HO201 := n3_; have HB := n4_; clear n0_ n1_ n2_ n3_ n4_; clear hb ho31; obtain ⟨Ao33, co33, eo33⟩ := Kd.R_slice HO201.out; subst eo33) | ((with_reducible refine gate_builtin (b := .append) (xs := #[.tmp 45, .tmp 52]) rfl ?_); (try (refine gate_guard (by rfl) ?_; dsimp only)); at_builtin; refine Kd.R_append_rows k40 (w0 := w) w.heap.size rfl (.tmp 45) (.tmp 52) 28 40 (.agg #[(.bool false), (.string ⟨#[]⟩)]) 24 rfl Tryd.underlying28 info40 rfl (by decide) (by omega) u7 x7_2 y199 _ _ _ (fun k_ => some k_ ≠ (.slice Ao33 y199.length co33 : Value).ownBlock) (fun _ => False) rfl rfl ?aO ?aR (fun _ _ h => h) (fun _ h => h.elim) ?aF ?aB ?aS ?aL ?_; (case aR => repeat (first | exact (Kd.R_reads' HO201.out).2.2 | (with_reducible refine Kd.C_alloc ?_ _) | (with_reducible refine Kd.C_drewN ?_ _) | (with_reducible refine Kd.C_drew ?_))); (case aB => exact (by repeat (first | (with_reducible first | exact HB.out | apply below_alloc | apply pw_below_drewN | apply below_drew1) | exact HB.out))); (case aF => exact (fun k_ hk => Kd.fresh' (Kd.R_lt (by (with_reducible repeat (first | apply Kd.R_alloc | apply Kd.R_drewN | apply Kd.R_drew)); exact HO201.out)) k_ hk)); (case aO => exact (by (with_reducible repeat (first | apply Kd.R_alloc | apply Kd.R_drewN | apply Kd.R_drew)); exact Kd.R_mono HO_7.out (fun _ hk => hk.2))); (case aS => exact (below_size (by repeat (first | (with_reducible first | exact HB.out | apply below_alloc | apply pw_below_drewN | apply below_drew1) | exact HB.out)))); (case aL => have := LMc28.out; omega); intro v203 w32 ho hb hg hat; rw [← Ny202.out] at ho; have n0_ := Aside0.mk (Kd.R_over' (by (with_reducible repeat (first | apply Kd.R_alloc | apply Kd.R_drewN | apply Kd.R_drew)); exact HO_8.out) (Kd.R_typed (by (with_reducible repeat (first | apply Kd.R_alloc | apply Kd.R_drewN | apply Kd.R_drew)); exact HO_7.out)) (by decide) hg); have n1_ := Aside0.mk (Kd.R_over' (by (with_reducible repeat (first | apply Kd.R_alloc | apply Kd.R_drewN | apply Kd.R_drew)); exact HO_38.out) (Kd.R_typed (by (with_reducible repeat (first | apply Kd.R_alloc | apply Kd.R_drewN | apply Kd.R_drew)); exact HO_7.out)) (by decide) hg); have n2_ := Aside0.mk (Kd.R_after (ok := (fun _ => True)) (by (with_reducible repeat (first | apply Kd.R_alloc | apply Kd.R_drewN | apply Kd.R_drew)); exact HO201.out) hg hat); have n3_ := Aside0.mk (hb); have n4_ := Aside0.mk (ho); clear HO_8; clear HO_38; clear HO201; clear HB; clear HO_7; have HO_8 := n0_; have HO_38 := n1_; have HO201 := n2_; have HB := n3_; have HO204 := n4_; clear n0_ n1_ n2_ n3_ n4_; clear ho hb hg hat))
           go_roundg k2
           case measure => have := HJ3.out; have := HK2.out; omega
           case rel => exact ⟨(y202), (wrap64 (x40_2 + 1)), (by first | rfl | (simp; done) | (simp [*]; done)), H', ⟨by have := HJ3.out; have := HK2.out; omega⟩, ⟨by (with_reducible repeat (first | apply Kd.R_alloc | apply Kd.R_drewN | apply Kd.R_drew)); exact Kd.R_mono HO204.out (fun _ hk => trivial)⟩, ⟨by (with_reducible repeat (first | apply Kd.R_alloc | apply Kd.R_drewN | apply Kd.R_drew)); exact HO_8.out⟩, ⟨by (with_reducible repeat (first | apply Kd.R_alloc | apply Kd.R_drewN | apply Kd.R_drew)); exact HO_38.out⟩, ⟨by repeat (first | (with_reducible first | exact HB.out | apply below_alloc | apply pw_below_drewN | apply below_drew1) | exact HB.out)⟩⟩
          ·rw [if_neg c28] at H
           exact absurd H (by simp)
         ·rw [if_neg c26] at H
          exact absurd H (by simp)
        ·rw [if_neg c25] at H
         exact absurd H (by simp)
       ·rw [if_neg c24] at H
        have c24b0 : decide (x40_2 < (t194.length : Int)) = false := decide_eq_false c24
        clear c24
        replace H := Option.bind_eq_some_iff.mp H
        obtain ⟨t205, A340, H⟩ := H
        replace H : ((laws_record.f k2 99 t205).bind fun t206 => ((laws_pops.f k2 (([t206] : List ByteArray)) 1).bind fun t210 => (if x7_2.length + t210.length < 5864062014805 then ((some (x7_2 ++ t210 : List (S40))).bind fun y213 => ((impl_Fragments.f k2 y213).bind fun t216 => (if (t216.length : Int) = (y213.length : Int) then (if 1 < (t216.length : Int) then (if ((rd_T43 t216 1).f3 = true) then ((laws_whole.f k2 11 0 a0).bind fun t221 => (laws_FnOldPieces.j2 k2 a1 t194 t216 (((rd_T43 t216 1).f4).toList != t221.toList))) else (laws_FnOldPieces.j2 k2 a1 t194 t216 true)) else (none)) else (laws_FnOldPieces.j2 k2 a1 t194 t216 true)))) else (none)))) = some r := H
        have A34 := Aside0.mk A340
        clear A340
        replace H := Option.bind_eq_some_iff.mp H
        obtain ⟨t206, A350, H⟩ := H
        replace H : ((laws_pops.f k2 (([t206] : List ByteArray)) 1).bind fun t210 => (if x7_2.length + t210.length < 5864062014805 then ((some (x7_2 ++ t210 : List (S40))).bind fun y213 => ((impl_Fragments.f k2 y213).bind fun t216 => (if (t216.length : Int) = (y213.length : Int) then (if 1 < (t216.length : Int) then (if ((rd_T43 t216 1).f3 = true) then ((laws_whole.f k2 11 0 a0).bind fun t221 => (laws_FnOldPieces.j2 k2 a1 t194 t216 (((rd_T43 t216 1).f4).toList != t221.toList))) else (laws_FnOldPieces.j2 k2 a1 t194 t216 true)) else (none)) else (laws_FnOldPieces.j2 k2 a1 t194 t216 true)))) else (none))) = some r := H
        have A35 := Aside0.mk A350
        clear A350
        obtain ⟨y207, hy207⟩ : ∃ y_ : List ByteArray, y_ = (([t206] : List ByteArray)) := ⟨_, rfl⟩
        replace H : ((laws_pops.f k2 y207 1).bind fun t210 => (if x7_2.length + t210.length < 5864062014805 then ((some (x7_2 ++ t210 : List (S40))).bind fun y213 => ((impl_Fragments.f k2 y213).bind fun t216 => (if (t216.length : Int) = (y213.length : Int) then (if 1 < (t216.length : Int) then (if ((rd_T43 t216 1).f3 = true) then ((laws_whole.f k2 11 0 a0).bind fun t221 => (laws_FnOldPieces.j2 k2 a1 t194 t216 (((rd_T43 t216 1).f4).toList != t221.toList))) else (laws_FnOldPieces.j2 k2 a1 t194 t216 true)) else (none)) else (laws_FnOldPieces.j2 k2 a1 t194 t216 true)))) else (none))) = some r := by first | (rw [hy207]; with_reducible exact H) | (have H2_ := (Option.bind_some _ _).symm.trans H; rw [hy207]; with_reducible exact H2_) | (have H2_ := (Option.bind_some _ _).symm.trans H; with_reducible exact H2_) | with_reducible exact H | (rw [hy207]; exact H) | exact H
        have Ny207 := Aside0.mk hy207
        clear hy207
        replace H := Option.bind_eq_some_iff.mp H
        obtain ⟨t210, A360, H⟩ := H
        replace H : (if x7_2.length + t210.length < 5864062014805 then ((some (x7_2 ++ t210 : List (S40))).bind fun y213 => ((impl_Fragments.f k2 y213).bind fun t216 => (if (t216.length : Int) = (y213.length : Int) then (if 1 < (t216.length : Int) then (if ((rd_T43 t216 1).f3 = true) then ((laws_whole.f k2 11 0 a0).bind fun t221 => (laws_FnOldPieces.j2 k2 a1 t194 t216 (((rd_T43 t216 1).f4).toList != t221.toList))) else (laws_FnOldPieces.j2 k2 a1 t194 t216 true)) else (none)) else (laws_FnOldPieces.j2 k2 a1 t194 t216 true)))) else (none)) = some r := H
        have A36 := Aside0.mk A360
        clear A360
        by_cases c37 : x7_2.length + t210.length < 5864062014805
        ·rw [if_pos c37] at H
         have LMc37 := Aside0.mk c37
         clear c37
         obtain ⟨y213, hy213⟩ : ∃ y_ : List (S40), y_ = (x7_2 ++ t210) := ⟨_, rfl⟩
         replace H : ((impl_Fragments.f k2 y213).bind fun t216 => (if (t216.length : Int) = (y213.length : Int) then (if 1 < (t216.length : Int) then (if ((rd_T43 t216 1).f3 = true) then ((laws_whole.f k2 11 0 a0).bind fun t221 => (laws_FnOldPieces.j2 k2 a1 t194 t216 (((rd_T43 t216 1).f4).toList != t221.toList))) else (laws_FnOldPieces.j2 k2 a1 t194 t216 true)) else (none)) else (laws_FnOldPieces.j2 k2 a1 t194 t216 true))) = some r := by first | (rw [hy213]; with_reducible exact H) | (have H2_ := (Option.bind_some _ _).symm.trans H; rw [hy213]; with_reducible exact H2_) | (have H2_ := (Option.bind_some _ _).symm.trans H; with_reducible exact H2_) | with_reducible exact H | (rw [hy213]; exact H) | exact H
         have Ny213 := Aside0.mk hy213
         clear hy213
         replace H := Option.bind_eq_some_iff.mp H
         obtain ⟨t216, A380, H⟩ := H
         replace H : (if (t216.length : Int) = (y213.length : Int) then (if 1 < (t216.length : Int) then (if ((rd_T43 t216 1).f3 = true) then ((laws_whole.f k2 11 0 a0).bind fun t221 => (laws_FnOldPieces.j2 k2 a1 t194 t216 (((rd_T43 t216 1).f4).toList != t221.toList))) else (laws_FnOldPieces.j2 k2 a1 t194 t216 true)) else (none)) else (laws_FnOldPieces.j2 k2 a1 t194 t216 true)) = some r := H
         have A38 := Aside0.mk A380
         clear A380
         have HC39 := Aside0.mk H
         clear H
         go_upto_region 14 with (first | ((with_reducible refine gate_callee (f := 15) rfl ?_); refine goesL_ (some 57) rfl rfl Tryd.func15 (by kernel_rfl) rfl #[.int .u8 11, .int .i64 1, .string a1] rfl (by (try simp only [List.map_toArray, List.map_cons, List.map_nil]); first | done | rfl | (simp only [List.length_drop, List.length_take]; rfl)) ?_; (with_reducible refine (laws_whole.calls k2 11 1 a1 t205 _ A34.out).mono ?_); rintro e w40 ⟨rfl, hb⟩; refine ⟨_, rfl, ?_⟩; have n0_ := Aside0.mk (Kd.R_below (by (with_reducible repeat (first | apply Kd.R_alloc | apply Kd.R_drewN | apply Kd.R_drew)); exact HO_7.out) hb); have n1_ := Aside0.mk (Kd.R_below (by (with_reducible repeat (first | apply Kd.R_alloc | apply Kd.R_drewN | apply Kd.R_drew)); exact HO_8.out) hb); have n2_ := Aside0.mk (Kd.R_below (by (with_reducible repeat (first | apply Kd.R_alloc | apply Kd.R_drewN | apply Kd.R_drew)); exact HO_38.out) hb); have n3_ := Aside0.mk (below_step (by repeat (first | (with_reducible first | exact HB.out | apply below_alloc | apply pw_below_drewN | apply below_drew1) | exact HB.out)) hb); clear HO_7; clear HO_8; clear HO_38; clear HB; have HO_7 := n0_; have HO_8 := n1_; have HO_38 := n2_; have HB := n3_; clear n0_ n1_ n2_ n3_; (try clear hb); (try clear hb2); (try clear hk); (try clear hi)) | ((with_reducible refine gate_callee (f := 10) rfl ?_); refine goesL_ (some 58) rfl rfl Tryd.func10 (by kernel_rfl) rfl #[.int .i64 99, .string t205] rfl (by (try simp only [List.map_toArray, List.map_cons, List.map_nil]); first | done | rfl | (simp only [List.length_drop, List.length_take]; rfl)) ?_; (with_reducible refine (laws_record.calls k2 99 t205 t206 _ A35.out).mono ?_); rintro e w41 ⟨rfl, hb⟩; refine ⟨_, rfl, ?_⟩; have n0_ := Aside0.mk (Kd.R_below (by (with_reducible repeat (first | apply Kd.R_alloc | apply Kd.R_drewN | apply Kd.R_drew)); exact HO_7.out) hb); have n1_ := Aside0.mk (Kd.R_below (by (with_reducible repeat (first | apply Kd.R_alloc | apply Kd.R_drewN | apply Kd.R_drew)); exact HO_8.out) hb); have n2_ := Aside0.mk (Kd.R_below (by (with_reducible repeat (first | apply Kd.R_alloc | apply Kd.R_drewN | apply Kd.R_drew)); exact HO_38.out) hb); have n3_ := Aside0.mk (below_step (by repeat (first | (with_reducible first | exact HB.out | apply below_alloc | apply pw_below_drewN | apply below_drew1) | exact HB.out)) hb); clear HO_7; clear HO_8; clear HO_38; clear HB; have HO_7 := n0_; have HO_8 := n1_; have HO_38 := n2_; have HB := n3_; clear n0_ n1_ n2_ n3_; (try clear hb); (try clear hb2); (try clear hk); (try clear hi)) | ((with_reducible refine gate_dst (N := 59) rfl ?_); (try (refine gate_guard (by rfl) ?_; dsimp only)); refine Kd.R_lit Kd.string _ 9 ?hg (N := 59) ?hd (xs := ([t206] : List ByteArray)) (inner := [.string t206]) (ok := fun _ => True) (okp := fun _ => True) ?hr ?hp (fun _ hk => hk) trivial (Below.refl _ _) (Nat.le_refl _) (by simp) ?_; (case hd => rfl); (case hg => rfl); (case hr => first | (go_simp; done) | (go_simp; rfl)); (case hp => exact (Reps.one (show Kd.M Kd.string _ _ _ t206 [.string t206] from rfl) (Reps.none _ _))); intro v208 w42 ho43 hb hg_ hnew_; clear hg_ hnew_; (first | rw [← Ny207.out] at ho43 | (simp only [Int.reduceToNat] at ho43; rw [← Ny207.out] at ho43)); have n0_ := Aside0.mk (Kd.R_below (by (with_reducible repeat (first | apply Kd.R_alloc | apply Kd.R_drewN | apply Kd.R_drew)); exact HO_7.out) hb); have n1_ := Aside0.mk (Kd.R_elder' (by (with_reducible repeat (first | apply Kd.R_alloc | apply Kd.R_drewN | apply Kd.R_drew)); exact HO_8.out) (Kd.R_base ho43) hb); have n2_ := Aside0.mk (Kd.R_elder' (by (with_reducible repeat (first | apply Kd.R_alloc | apply Kd.R_drewN | apply Kd.R_drew)); exact HO_38.out) (Kd.R_base ho43) hb); have n3_ := Aside0.mk (Kd.R_lower (Kd.R_new' (Kd.R_new' ho43 (Kd.R_lt (by (with_reducible repeat (first | apply Kd.R_alloc | apply Kd.R_drewN | apply Kd.R_drew)); exact HO_8.out))) (Kd.R_lt (by (with_reducible repeat (first | apply Kd.R_alloc | apply Kd.R_drewN | apply Kd.R_drew)); exact HO_38.out))) (below_size (by repeat (first | (with_reducible first | exact HB.out | apply below_alloc | apply pw_below_drewN | apply below_drew1) | exact HB.out)))); have n4_ := Aside0.mk (below_step (by repeat (first | (with_reducible first | exact HB.out | apply below_alloc | apply pw_below_drewN | apply below_drew1) | exact HB.out)) hb); clear HO_7; clear HO_8; clear HO_38; clear HB; have HO_7 := n0_; have HO_8 := n1_; have HO_38 := n2_; have HO209 := n3_; have HB := n4_; clear n0_ n1_ n2_ n3_ n4_; clear hb ho43; obtain ⟨Ao44, co44, eo44⟩ := Kd.R_slice HO209.out; subst eo44) | ((with_reducible refine gate_callee (f := 11) rfl ?_); refine goesL_ (some 60) rfl rfl Tryd.func11 (by kernel_rfl) rfl #[.slice Ao44 y207.length co44, .int .i64 1] rfl (by (try simp only [List.map_toArray, List.map_cons, List.map_nil]); first | done | rfl | (simp only [List.length_drop, List.length_take]; rfl)) ?_; (with_reducible refine (laws_pops.calls k2 _ _ y207 1 t210 _ ?side1 ?side2 A36.out).mono ?_); (case side1 => repeat (first | exact (Kd.R_reads' HO209.out).2.2 | (with_reducible refine Kd.C_alloc ?_ _) | (with_reducible refine Kd.C_drewN ?_ _) | (with_reducible refine Kd.C_drew ?_))); (case side2 => exact (Kd.R_reads' HO209.out).2.1); rintro e w45 ⟨v211, rfl, ho0, hb⟩; refine ⟨_, rfl, ?_⟩; have n0_ := Aside0.mk (Kd.R_elder' (by (with_reducible repeat (first | apply Kd.R_alloc | apply Kd.R_drewN | apply Kd.R_drew)); exact HO_7.out) (Kd.R_base ho0) hb); have n1_ := Aside0.mk (Kd.R_below (by (with_reducible repeat (first | apply Kd.R_alloc | apply Kd.R_drewN | apply Kd.R_drew)); exact HO_8.out) hb); have n2_ := Aside0.mk (Kd.R_below (by (with_reducible repeat (first | apply Kd.R_alloc | apply Kd.R_drewN | apply Kd.R_drew)); exact HO_38.out) hb); have n3_ := Aside0.mk (Kd.R_below (by (with_reducible repeat (first | apply Kd.R_alloc | apply Kd.R_drewN | apply Kd.R_drew)); exact HO209.out) hb); have n4_ := Aside0.mk (Kd.R_lower (Kd.R_new' ho0 (Kd.R_lt (by (with_reducible repeat (first | apply Kd.R_alloc | apply Kd.R_drewN | apply Kd.R_drew)); exact HO_7.out))) (below_size (by repeat (first | (with_reducible first | exact HB.out | apply below_alloc | apply pw_below_drewN | apply below_drew1) | exact HB.out)))); have n5_ := Aside0.mk (below_step (by repeat (first | (with_reducible first | exact HB.out | apply below_alloc | apply pw_below_drewN | apply below_drew1) | exact HB.out)) hb); clear HO_7; clear HO_8; clear HO_38; clear HO209; clear HB; have HO_7 := n0_; have HO_8 := n1_; have HO_38 := n2_; have HO209 := n3_; have HO212 := n4_; have HB := n5_; clear n0_ n1_ n2_ n3_ n4_ n5_; (try clear hb); (try clear hb2); (try clear hk); (try clear hi); (try clear ho0); obtain ⟨Ao47, co47, eo47⟩ := Kd.R_slice HO212.out; subst eo47) | ((with_reducible refine gate_builtin (b := .append) (xs := #[.tmp 55, .tmp 60]) rfl ?_); (try (refine gate_guard (by rfl) ?_; dsimp only)); at_builtin; refine Kd.R_append_rows k40 (w0 := w) w.heap.size rfl (.tmp 55) (.tmp 60) 28 40 (.agg #[(.bool false), (.string ⟨#[]⟩)]) 24 rfl Tryd.underlying28 info40 rfl (by decide) (by omega) u7 x7_2 t210 _ _ _ (fun k_ => some k_ ≠ (.slice Ao47 t210.length co47 : Value).ownBlock) (fun _ => False) rfl rfl ?aO ?aR (fun _ _ h => h) (fun _ h => h.elim) ?aF ?aB ?aS ?aL ?_; (case aR => repeat (first | exact (Kd.R_reads' HO212.out).2.2 | (with_reducible refine Kd.C_alloc ?_ _) | (with_reducible refine Kd.C_drewN ?_ _) | (with_reducible refine Kd.C_drew ?_))); (case aB => exact (by repeat (first | (with_reducible first | exact HB.out | apply below_alloc | apply pw_below_drewN | apply below_drew1) | exact HB.out))); (case aF => exact (fun k_ hk => Kd.fresh' (Kd.R_lt (by (with_reducible repeat (first | apply Kd.R_alloc | apply Kd.R_drewN | apply Kd.R_drew)); exact HO212.out)) k_ hk)); (case aO => exact (by (with_reducible repeat (first | apply Kd.R_alloc | apply Kd.R_drewN | apply Kd.R_drew)); exact Kd.R_mono HO_7.out (fun _ hk => hk.2))); (case aS => exact (below_size (by repeat (first | (with_reducible first | exact HB.out | apply below_alloc | apply pw_below_drewN | apply below_drew1) | exact HB.out)))); (case aL => have := LMc37.out; omega); intro v214 w46 ho hb hg hat; rw [← Ny213.out] at ho; have n0_ := Aside0.mk (Kd.R_over' (by (with_reducible repeat (first | apply Kd.R_alloc | apply Kd.R_drewN | apply Kd.R_drew)); exact HO_8.out) (Kd.R_typed (by (with_reducible repeat (first | apply Kd.R_alloc | apply Kd.R_drewN | apply Kd.R_drew)); exact HO_7.out)) (by decide) hg); have n1_ := Aside0.mk (Kd.R_over' (by (with_reducible repeat (first | apply Kd.R_alloc | apply Kd.R_drewN | apply Kd.R_drew)); exact HO_38.out) (Kd.R_typed (by (with_reducible repeat (first | apply Kd.R_alloc | apply Kd.R_drewN | apply Kd.R_drew)); exact HO_7.out)) (by decide) hg); have n2_ := Aside0.mk (Kd.R_over' (by (with_reducible repeat (first | apply Kd.R_alloc | apply Kd.R_drewN | apply Kd.R_drew)); exact HO209.out) (Kd.R_typed (by (with_reducible repeat (first | apply Kd.R_alloc | apply Kd.R_drewN | apply Kd.R_drew)); exact HO_7.out)) (by decide) hg); have n3_ := Aside0.mk (Kd.R_after (ok := (fun _ => True)) (by (with_reducible repeat (first | apply Kd.R_alloc | apply Kd.R_drewN | apply Kd.R_drew)); exact HO212.out) hg hat); have n4_ := Aside0.mk (hb); have n5_ := Aside0.mk (ho); clear HO_8; clear HO_38; clear HO209; clear HO212; clear HB; clear HO_7; have HO_8 := n0_; have HO_38 := n1_; have HO209 := n2_; have HO212 := n3_; have HB := n4_; have HO215 := n5_; clear n0_ n1_ n2_ n3_ n4_ n5_; clear ho hb hg hat; obtain ⟨Ao48, co48, eo48⟩ := Kd.R_slice HO215.out; subst eo48) | ((with_reducible refine gate_callee (f := 13) rfl ?_); refine goesL_ (some 63) rfl rfl Tryd.func13 (by kernel_rfl) rfl #[.slice Ao48 y213.length co48] rfl (by (try simp only [List.map_toArray, List.map_cons, List.map_nil]); first | done | rfl | (simp only [List.length_drop, List.length_take]; rfl)) ?_; (with_reducible refine (impl_Fragments.calls k2 _ _ y213 t216 _ ?side1 ?side2 A38.out (HGL.out.below (by repeat (first | (with_reducible first | exact HB.out | apply below_alloc | apply pw_below_drewN | apply below_drew1) | exact HB.out)) HGL.out.lt)).mono ?_); (case side1 => repeat (first | exact (Kd.R_reads' HO215.out).2.2 | (with_reducible refine Kd.C_alloc ?_ _) | (with_reducible refine Kd.C_drewN ?_ _) | (with_reducible refine Kd.C_drew ?_))); (case side2 => exact (Kd.R_reads' HO215.out).2.1); rintro e w49 ⟨v217, rfl, ho0, hb⟩; refine ⟨_, rfl, ?_⟩; have n0_ := Aside0.mk (Kd.R_below (by (with_reducible repeat (first | apply Kd.R_alloc | apply Kd.R_drewN | apply Kd.R_drew)); exact HO_8.out) hb); have n1_ := Aside0.mk (Kd.R_below (by (with_reducible repeat (first | apply Kd.R_alloc | apply Kd.R_drewN | apply Kd.R_drew)); exact HO_38.out) hb); have n2_ := Aside0.mk (Kd.R_below (by (with_reducible repeat (first | apply Kd.R_alloc | apply Kd.R_drewN | apply Kd.R_drew)); exact HO209.out) hb); have n3_ := Aside0.mk (Kd.R_below (by (with_reducible repeat (first | apply Kd.R_alloc | apply Kd.R_drewN | apply Kd.R_drew)); exact HO212.out) hb); have n4_ := Aside0.mk (Kd.R_below (by (with_reducible repeat (first | apply Kd.R_alloc | apply Kd.R_drewN | apply Kd.R_drew)); exact HO215.out) hb); have n5_ := Aside0.mk (Kd.R_lower ho0 (below_size (by repeat (first | (with_reducible first | exact HB.out | apply below_alloc | apply pw_below_drewN | apply below_drew1) | exact HB.out)))); have n6_ := Aside0.mk (below_step (by repeat (first | (with_reducible first | exact HB.out | apply below_alloc | apply pw_below_drewN | apply below_drew1) | exact HB.out)) hb); clear HO_8; clear HO_38; clear HO209; clear HO212; clear HO215; clear HB; have HO_8 := n0_; have HO_38 := n1_; have HO209 := n2_; have HO212 := n3_; have HO215 := n4_; have HO218 := n5_; have HB := n6_; clear n0_ n1_ n2_ n3_ n4_ n5_ n6_; (try clear hb); (try clear hb2); (try clear hk); (try clear hi); (try clear ho0)))
         (try simp only [Act.put, List.setIfInBounds_toArray, List.set_cons_zero, List.set_cons_succ])
         go_cut [84] (fun v84 wc => ∃ (kq : Nat) (x84_38 : Bool), v84 = .bool x84_38 ∧ Aside0 (laws_FnOldPieces.j2 kq a1 t194 t216 x84_38 = some r) ∧ Aside0 (kq ≤ k2) ∧ Aside0 (Kd.R Kd.string 9 wc w.heap.size (fun _ => True) (.slice Ao23 t194.length co23) t194) ∧ Aside0 (Kd.R k43 43 wc w.heap.size (fun _ => True) v217 t216) ∧ Aside0 (Below w.heap.size w wc))
         case first =>
          have H := HC39.out
          clear HC39
          by_cases c50 : (t216.length : Int) = (y213.length : Int)
          ·rw [if_pos c50] at H
           have c50b0 : ((t216.length : Int) == (y213.length : Int)) = true := beq_iff_eq.mpr c50
           have c50b1 : ((t216.length : Int) != (y213.length : Int)) = false := bne_eq_false_iff_eq.mpr c50
           have c50b2 : (t216.length == y213.length) = true := by first | simpa using c50 | (simp at c50 ⊢; omega)
           clear c50
           (first | rw [c50b0] | (simp only [i64_w, i32_w]; rw [c50b0]) | skip)
           by_cases c51 : 1 < (t216.length : Int)
           ·rw [if_pos c51] at H
            have c51b0 : decide (1 < (t216.length : Int)) = true := decide_eq_true c51
            have c51b1 : decide (1 < t216.length) = true := decide_eq_true (by omega)
            clear c51
            obtain ⟨bq52, hbq52⟩ : ∃ b_ : Bool, b_ = ((rd_T43 t216 1).f3) := ⟨_, rfl⟩
            replace H : (if (bq52 = true) then ((laws_whole.f k2 11 0 a0).bind fun t221 => (laws_FnOldPieces.j2 k2 a1 t194 t216 (((rd_T43 t216 1).f4).toList != t221.toList))) else (laws_FnOldPieces.j2 k2 a1 t194 t216 true)) = some r := by rw [← hbq52] at H; exact H
            have Nbq52 := Aside0.mk hbq52
            clear hbq52
            by_cases c53 : (bq52 = true)
            ·subst c53
             have H1 : ((laws_whole.f k2 11 0 a0).bind fun t221 => (laws_FnOldPieces.j2 k2 a1 t194 t216 (((rd_T43 t216 1).f4).toList != t221.toList))) = some r := by rw [if_pos rfl] at H; exact H
             clear H
             have H := H1
             clear H1
             replace H := Option.bind_eq_some_iff.mp H
             obtain ⟨t221, A540, H⟩ := H
             replace H : (laws_FnOldPieces.j2 k2 a1 t194 t216 (((rd_T43 t216 1).f4).toList != t221.toList)) = some r := H
             have A54 := Aside0.mk A540
             clear A540
             have H' := Aside0.mk H
             clear H
             try go_wp2
             have n0_ := Aside0.mk (Kd.R_drew HO_8.out)
             have n1_ := Aside0.mk (Kd.R_drew HO_38.out)
             have n2_ := Aside0.mk (Kd.R_drew HO209.out)
             have n3_ := Aside0.mk (Kd.R_drew HO212.out)
             have n4_ := Aside0.mk (Kd.R_drew HO215.out)
             have n5_ := Aside0.mk (Kd.R_drew HO218.out)
             have n6_ := Aside0.mk (below_drew1 HB.out)
             clear HO_8
             clear HO_38
             clear HO209
             clear HO212
             clear HO215
             clear HO218
             clear HB
             have HO_8 := n0_
             have HO_38 := n1_
             have HO209 := n2_
             have HO212 := n3_
             have HO215 := n4_
             have HO218 := n5_
             have HB := n6_
             clear n0_ n1_ n2_ n3_ n4_ n5_ n6_
             obtain ⟨Ao56, co56, eo56⟩ := Kd.R_slice HO218.out
             (first | subst eo56 | (injection eo56 with f1_ f2_ f3_; have f4_ := f1_.symm; have f5_ := f3_.symm; clear f1_ f2_ f3_; subst f4_; subst f5_))
             have p219 : 0 ≤ (1 : Int) := (by omega)
             have q219 : 1 < (t216.length : Int) := of_decide_eq_true (by first | (with_reducible assumption) | assumption)
             obtain ⟨ad219, e219, hx219_0, hx219_1, hx219_2, hx219_3, hx219_4, hx219_5, hx219_6⟩ := at_T43 (Kd.R_reads' HO218.out).2.2 1 p219 q219
             (try rw [← Nbq52.out] at hx219_0)
             (try rw [← Nbq52.out] at hx219_1)
             (try rw [← Nbq52.out] at hx219_2)
             (try rw [← Nbq52.out] at hx219_3)
             cases e219
             (try simp only [show (1 : Int).toNat = 1 from rfl, Nat.reduceMul, Nat.reduceEqDiff, Go.Addr.add, ↓reduceIte] at hx219_0)
             (try simp only [show (1 : Int).toNat = 1 from rfl, Nat.reduceMul, Nat.reduceEqDiff, Go.Addr.add, ↓reduceIte] at hx219_1)
             (try simp only [show (1 : Int).toNat = 1 from rfl, Nat.reduceMul, Nat.reduceEqDiff, Go.Addr.add, ↓reduceIte] at hx219_2)
             (try simp only [show (1 : Int).toNat = 1 from rfl, Nat.reduceMul, Nat.reduceEqDiff, Go.Addr.add, ↓reduceIte] at hx219_3)
             (try simp only [show (1 : Int).toNat = 1 from rfl, Nat.reduceMul, Nat.reduceEqDiff, Go.Addr.add, ↓reduceIte] at hx219_4)
             (try simp only [show (1 : Int).toNat = 1 from rfl, Nat.reduceMul, Nat.reduceEqDiff, Go.Addr.add, ↓reduceIte] at hx219_5)
             (try simp only [show (1 : Int).toNat = 1 from rfl, Nat.reduceMul, Nat.reduceEqDiff, Go.Addr.add, ↓reduceIte] at hx219_6)
             have qi219 : (1 < t216.length) = True := eq_true (by omega)
             (try rw [show ((1 : Int)).toNat = 1 from rfl] at hx219_0)
             (try rw [show 1 * 7 = 7 from rfl] at hx219_0)
             (try rw [show ((1 : Int)).toNat = 1 from rfl] at hx219_1)
             (try rw [show 1 * 7 = 7 from rfl] at hx219_1)
             (try rw [show ((1 : Int)).toNat = 1 from rfl] at hx219_2)
             (try rw [show 1 * 7 = 7 from rfl] at hx219_2)
             (try rw [show ((1 : Int)).toNat = 1 from rfl] at hx219_3)
             (try rw [show 1 * 7 = 7 from rfl] at hx219_3)
             (try rw [show ((1 : Int)).toNat = 1 from rfl] at hx219_4)
             (try rw [show 1 * 7 = 7 from rfl] at hx219_4)
             (try rw [show ((1 : Int)).toNat = 1 from rfl] at hx219_5)
             (try rw [show 1 * 7 = 7 from rfl] at hx219_5)
             (try rw [show ((1 : Int)).toNat = 1 from rfl] at hx219_6)
             (try rw [show 1 * 7 = 7 from rfl] at hx219_6)
             replace p219 := eq_true p219
             replace q219 := eq_true q219
             have p220 : 0 ≤ (1 : Int) := (by omega)
             have q220 : 1 < (t216.length : Int) := of_decide_eq_true (by first | (with_reducible assumption) | assumption)
             obtain ⟨ad220, e220, hx220_0, hx220_1, hx220_2, hx220_3, hx220_4, hx220_5, hx220_6⟩ := at_T43 (Kd.R_reads' HO218.out).2.2 1 p220 q220
             (try rw [← Nbq52.out] at hx220_0)
             (try rw [← Nbq52.out] at hx220_1)
             (try rw [← Nbq52.out] at hx220_2)
             (try rw [← Nbq52.out] at hx220_3)
             obtain rfl : ad219 = ad220 := (by injection e220)
             (try simp only [show (1 : Int).toNat = 1 from rfl, Nat.reduceMul, Nat.reduceEqDiff, Go.Addr.add, ↓reduceIte] at hx220_0)
             (try simp only [show (1 : Int).toNat = 1 from rfl, Nat.reduceMul, Nat.reduceEqDiff, Go.Addr.add, ↓reduceIte] at hx220_1)
             (try simp only [show (1 : Int).toNat = 1 from rfl, Nat.reduceMul, Nat.reduceEqDiff, Go.Addr.add, ↓reduceIte] at hx220_2)
             (try simp only [show (1 : Int).toNat = 1 from rfl, Nat.reduceMul, Nat.reduceEqDiff, Go.Addr.add, ↓reduceIte] at hx220_3)
             (try simp only [show (1 : Int).toNat = 1 from rfl, Nat.reduceMul, Nat.reduceEqDiff, Go.Addr.add, ↓reduceIte] at hx220_4)
             (try simp only [show (1 : Int).toNat = 1 from rfl, Nat.reduceMul, Nat.reduceEqDiff, Go.Addr.add, ↓reduceIte] at hx220_5)
             (try simp only [show (1 : Int).toNat = 1 from rfl, Nat.reduceMul, Nat.reduceEqDiff, Go.Addr.add, ↓reduceIte] at hx220_6)
             have qi220 : (1 < t216.length) = True := eq_true (by omega)
             (try rw [show ((1 : Int)).toNat = 1 from rfl] at hx220_0)
             (try rw [show 1 * 7 = 7 from rfl] at hx220_0)
             (try rw [show ((1 : Int)).toNat = 1 from rfl] at hx220_1)
             (try rw [show 1 * 7 = 7 from rfl] at hx220_1)
             (try rw [show ((1 : Int)).toNat = 1 from rfl] at hx220_2)
             (try rw [show 1 * 7 = 7 from rfl] at hx220_2)
             (try rw [show ((1 : Int)).toNat = 1 from rfl] at hx220_3)
             (try rw [show 1 * 7 = 7 from rfl] at hx220_3)
             (try rw [show ((1 : Int)).toNat = 1 from rfl] at hx220_4)
             (try rw [show 1 * 7 = 7 from rfl] at hx220_4)
             (try rw [show ((1 : Int)).toNat = 1 from rfl] at hx220_5)
             (try rw [show 1 * 7 = 7 from rfl] at hx220_5)
             (try rw [show ((1 : Int)).toNat = 1 from rfl] at hx220_6)
             (try rw [show 1 * 7 = 7 from rfl] at hx220_6)
             replace p220 := eq_true p220
             replace q220 := eq_true q220
             refine start_ (n := 21) (S := fun w' => w'.cell? ⟨ad219.block, ad219.off + 7, none⟩ = some (.bool ((rd_T43 t216 1).f0)) ∧ w'.cell? ⟨ad219.block, ad219.off + 7 + 1, none⟩ = some (.bool ((rd_T43 t216 1).f1)) ∧ w'.cell? ⟨ad219.block, ad219.off + 7 + 2, none⟩ = some (.bool ((rd_T43 t216 1).f2)) ∧ w'.cell? ⟨ad219.block, ad219.off + 7 + 3, none⟩ = some (.bool true) ∧ w'.cell? ⟨ad219.block, ad219.off + 7 + 4, none⟩ = some (.string ((rd_T43 t216 1).f4)) ∧ w'.cell? ⟨ad219.block, ad219.off + 7 + 5, none⟩ = some (.int .u16 ((rd_T43 t216 1).f5)) ∧ w'.cell? ⟨ad219.block, ad219.off + 7 + 6, none⟩ = some (.int .i64 ((rd_T43 t216 1).f6)) ∧ w'.cell? ⟨ad219.block, ad219.off + 7, none⟩ = some (.bool ((rd_T43 t216 1).f0)) ∧ w'.cell? ⟨ad219.block, ad219.off + 7 + 1, none⟩ = some (.bool ((rd_T43 t216 1).f1)) ∧ w'.cell? ⟨ad219.block, ad219.off + 7 + 2, none⟩ = some (.bool ((rd_T43 t216 1).f2)) ∧ w'.cell? ⟨ad219.block, ad219.off + 7 + 3, none⟩ = some (.bool (true)) ∧ w'.cell? ⟨ad219.block, ad219.off + 7 + 4, none⟩ = some (.string ((rd_T43 t216 1).f4)) ∧ w'.cell? ⟨ad219.block, ad219.off + 7 + 5, none⟩ = some (.int .u16 ((rd_T43 t216 1).f5)) ∧ w'.cell? ⟨ad219.block, ad219.off + 7 + 6, none⟩ = some (.int .i64 ((rd_T43 t216 1).f6))) (ds := []) #[false, false, false, false, false, false, false, false, false, false, false, false, false, false, false, false, false, false, false, false, false] (by kernel_rfl) rfl rfl ⟨hx219_0, hx219_1, hx219_2, hx219_3, hx219_4, hx219_5, hx219_6, hx220_0, hx220_1, hx220_2, hx220_3, hx220_4, hx220_5, hx220_6⟩ (fun hHeld => ?_); refine with_tabW laws_FnOldPieces.tab14 laws_FnOldPieces.bits14 (fun HT_ HW_ => ?_)
             generalize w49.drew = w55 at HO_8 HO_38 HO209 HO212 HO215 HO218 HB hx219_0 hx219_1 hx219_2 hx219_3 hx219_4 hx219_5 hx219_6 hx220_0 hx220_1 hx220_2 hx220_3 hx220_4 hx220_5 hx220_6 hHeld ⊢
             refine pure_ (i := 0) (N := some 64) (v := ?_) (a' := ?_) #[true, false, false, false, false, false, false, false, false, false, false, false, false, false, false, false, false, false, false, false, false] rfl rfl (any_of HT_.out (by kernel_rfl)) (fun _ _ _ h => h) (Or.inl ⟨by rfl, ?_⟩) ?_ ?_
             rotate_left
             ·intro w'
              go_simp
              with_reducible rfl
             rotate_left
             ·simp only [Act.put, List.setIfInBounds_toArray, List.set_cons_zero, List.set_cons_succ, i64_w, i32_w]
              rfl
             refine pure_ (i := 1) (N := some 65) (v := ?_) (a' := ?_) #[true, true, false, false, false, false, false, false, false, false, false, false, false, false, false, false, false, false, false, false, false] rfl rfl (any_of HT_.out (by kernel_rfl)) (fun _ _ _ h => h) (Or.inl ⟨by rfl, ?_⟩) ?_ ?_
             rotate_left
             ·intro w'
              go_simp
              with_reducible rfl
             rotate_left
             ·simp only [Act.put, List.setIfInBounds_toArray, List.set_cons_zero, List.set_cons_succ, i64_w, i32_w]
              rfl
             refine pure_ (i := 2) (N := some 66) (v := ?_) (a' := ?_) #[true, true, true, false, false, false, false, false, false, false, false, false, false, false, false, false, false, false, false, false, false] rfl rfl (any_of HT_.out (by kernel_rfl)) (fun _ _ _ h => h) (Or.inl ⟨by rfl, ?_⟩) ?_ ?_
             rotate_left
             ·intro w'
              go_simp
              with_reducible rfl
             rotate_left
             ·simp only [Act.put, List.setIfInBounds_toArray, List.set_cons_zero, List.set_cons_succ, i64_w, i32_w]
              rfl
             refine pure_ (i := 3) (N := some 67) (v := ?_) (a' := ?_) #[true, true, true, true, false, false, false, false, false, false, false, false, false, false, false, false, false, false, false, false, false] rfl rfl (any_of HT_.out (by kernel_rfl)) (fun _ _ _ h => h) (Or.inl ⟨by rfl, ?_⟩) ?_ ?_
             rotate_left
             ·intro w'
              go_simp
              with_reducible rfl
             rotate_left
             ·simp only [Act.put, List.setIfInBounds_toArray, List.set_cons_zero, List.set_cons_succ, i64_w, i32_w]
              rfl
             refine pure_ (i := 4) (N := some 68) (v := ?_) (a' := ?_) #[true, true, true, true, true, false, false, false, false, false, false, false, false, false, false, false, false, false, false, false, false] rfl rfl (any_of HT_.out (by kernel_rfl)) (fun _ _ _ h => h) (Or.inl ⟨by rfl, ?_⟩) ?_ ?_
             rotate_left
             ·intro w'
              go_simp
              with_reducible rfl
             rotate_left
             ·simp only [Act.put, List.setIfInBounds_toArray, List.set_cons_zero, List.set_cons_succ, i64_w, i32_w]
              rfl
             refine pure_ (i := 5) (N := some 69) (v := ?_) (a' := ?_) #[true, true, true, true, true, true, false, false, false, false, false, false, false, false, false, false, false, false, false, false, false] rfl rfl (any_of HT_.out (by kernel_rfl)) (fun _ _ _ h => h) (Or.inl ⟨by rfl, ?_⟩) ?_ ?_
             rotate_left
             ·intro w'
              go_simp
              with_reducible rfl
             rotate_left
             ·simp only [Act.put, List.setIfInBounds_toArray, List.set_cons_zero, List.set_cons_succ, i64_w, i32_w]
              rfl
             refine pure_ (i := 6) (N := some 70) (v := ?_) (a' := ?_) #[true, true, true, true, true, true, true, false, false, false, false, false, false, false, false, false, false, false, false, false, false] rfl rfl (any_of HT_.out (by kernel_rfl)) (fun _ _ _ h => h) (Or.inl ⟨by rfl, ?_⟩) ?_ ?_
             rotate_left
             ·intro w'
              go_simp
              with_reducible rfl
             rotate_left
             ·simp only [Act.put, List.setIfInBounds_toArray, List.set_cons_zero, List.set_cons_succ, i64_w, i32_w]
              rfl
             refine pure_ (i := 7) (N := some 71) (v := ?_) (a' := ?_) #[true, true, true, true, true, true, true, true, false, false, false, false, false, false, false, false, false, false, false, false, false] rfl rfl (any_of HT_.out (by kernel_rfl)) (fun _ _ _ h => h) (Or.inl ⟨by rfl, ?_⟩) ?_ ?_
             rotate_left
             ·intro w'
              go_simp
              with_reducible rfl
             rotate_left
             ·simp only [Act.put, List.setIfInBounds_toArray, List.set_cons_zero, List.set_cons_succ, i64_w, i32_w]
              rfl
             refine pure_ (i := 8) (N := some 72) (v := ?_) (a' := ?_) #[true, true, true, true, true, true, true, true, true, false, false, false, false, false, false, false, false, false, false, false, false] rfl rfl (any_of HT_.out (by kernel_rfl)) (fun _ _ _ h => h) (Or.inl ⟨by rfl, ?_⟩) ?_ ?_
             rotate_left
             ·intro w'
              go_simp
              with_reducible rfl
             rotate_left
             ·simp only [Act.put, List.setIfInBounds_toArray, List.set_cons_zero, List.set_cons_succ, i64_w, i32_w]
              rfl
             refine take_ (i := 9) (N := some 73) (v := ?_) (a' := ?_) #[true, true, true, true, true, true, true, true, true, true, false, false, false, false, false, false, false, false, false, false, false] rfl rfl (take_ofW HT_.out HW_.out (by kernel_rfl)) (fun _ _ _ h => h) (Or.inl ⟨by rfl, ?_⟩) hHeld ?_ ?_
             rotate_left
             ·rintro w' ⟨s0, s1, s2, s3, s4, s5, s6, s7, s8, s9, s10, s11, s12, s13⟩
              go_simp
              with_reducible rfl
             rotate_left
             ·simp only [Act.put, List.setIfInBounds_toArray, List.set_cons_zero, List.set_cons_succ, i64_w, i32_w]
              rfl
             refine pure_ (i := 10) (N := some 74) (v := ?_) (a' := ?_) #[true, true, true, true, true, true, true, true, true, true, true, false, false, false, false, false, false, false, false, false, false] rfl rfl (any_of HT_.out (by kernel_rfl)) (fun _ _ _ h => h) (Or.inl ⟨by rfl, ?_⟩) ?_ ?_
             rotate_left
             ·intro w'
              go_simp
              with_reducible rfl
             rotate_left
             ·simp only [Act.put, List.setIfInBounds_toArray, List.set_cons_zero, List.set_cons_succ, i64_w, i32_w]
              rfl
             refine pure_ (i := 11) (N := some 75) (v := ?_) (a' := ?_) #[true, true, true, true, true, true, true, true, true, true, true, true, false, false, false, false, false, false, false, false, false] rfl rfl (any_of HT_.out (by kernel_rfl)) (fun _ _ _ h => h) (Or.inl ⟨by rfl, ?_⟩) ?_ ?_
             rotate_left
             ·intro w'
              go_simp
              with_reducible rfl
             rotate_left
             ·simp only [Act.put, List.setIfInBounds_toArray, List.set_cons_zero, List.set_cons_succ, i64_w, i32_w]
              rfl
             refine pure_ (i := 12) (N := some 76) (v := ?_) (a' := ?_) #[true, true, true, true, true, true, true, true, true, true, true, true, true, false, false, false, false, false, false, false, false] rfl rfl (any_of HT_.out (by kernel_rfl)) (fun _ _ _ h => h) (Or.inl ⟨by rfl, ?_⟩) ?_ ?_
             rotate_left
             ·intro w'
              go_simp
              with_reducible rfl
             rotate_left
             ·simp only [Act.put, List.setIfInBounds_toArray, List.set_cons_zero, List.set_cons_succ, i64_w, i32_w]
              rfl
             refine pure_ (i := 13) (N := some 77) (v := ?_) (a' := ?_) #[true, true, true, true, true, true, true, true, true, true, true, true, true, true, false, false, false, false, false, false, false] rfl rfl (any_of HT_.out (by kernel_rfl)) (fun _ _ _ h => h) (Or.inl ⟨by rfl, ?_⟩) ?_ ?_
             rotate_left
             ·intro w'
              go_simp
              with_reducible rfl
             rotate_left
             ·simp only [Act.put, List.setIfInBounds_toArray, List.set_cons_zero, List.set_cons_succ, i64_w, i32_w]
              rfl
             refine pure_ (i := 14) (N := some 78) (v := ?_) (a' := ?_) #[true, true, true, true, true, true, true, true, true, true, true, true, true, true, true, false, false, false, false, false, false] rfl rfl (any_of HT_.out (by kernel_rfl)) (fun _ _ _ h => h) (Or.inl ⟨by rfl, ?_⟩) ?_ ?_
             rotate_left
             ·intro w'
              go_simp
              with_reducible rfl
             rotate_left
             ·simp only [Act.put, List.setIfInBounds_toArray, List.set_cons_zero, List.set_cons_succ, i64_w, i32_w]
              rfl
             refine pure_ (i := 15) (N := some 79) (v := ?_) (a' := ?_) #[true, true, true, true, true, true, true, true, true, true, true, true, true, true, true, true, false, false, false, false, false] rfl rfl (any_of HT_.out (by kernel_rfl)) (fun _ _ _ h => h) (Or.inl ⟨by rfl, ?_⟩) ?_ ?_
             rotate_left
             ·intro w'
              go_simp
              with_reducible rfl
             rotate_left
             ·simp only [Act.put, List.setIfInBounds_toArray, List.set_cons_zero, List.set_cons_succ, i64_w, i32_w]
              rfl
             refine pure_ (i := 17) (N := some 81) (v := ?_) (a' := ?_) #[true, true, true, true, true, true, true, true, true, true, true, true, true, true, true, true, false, true, false, false, false] rfl rfl (any_of HT_.out (by kernel_rfl)) (fun _ _ _ h => h) (Or.inl ⟨by rfl, ?_⟩) ?_ ?_
             rotate_left
             ·intro w'
              go_simp
              with_reducible rfl
             rotate_left
             ·simp only [Act.put, List.setIfInBounds_toArray, List.set_cons_zero, List.set_cons_succ, i64_w, i32_w]
              rfl
             refine take_ (i := 16) (N := some 80) (v := ?_) (a' := ?_) #[true, true, true, true, true, true, true, true, true, true, true, true, true, true, true, true, true, true, false, false, false] rfl rfl (take_ofW HT_.out HW_.out (by kernel_rfl)) (fun _ _ _ h => h) (Or.inl ⟨by rfl, ?_⟩) hHeld ?_ ?_
             rotate_left
             ·rintro w' ⟨s0, s1, s2, s3, s4, s5, s6, s7, s8, s9, s10, s11, s12, s13⟩
              go_simp
              with_reducible rfl
             rotate_left
             ·simp only [Act.put, List.setIfInBounds_toArray, List.set_cons_zero, List.set_cons_succ, i64_w, i32_w]
              rfl
             refine one_ (i := 18) (N := some 82) #[true, true, true, true, true, true, true, true, true, true, true, true, true, true, true, true, true, true, true, false, false] rfl rfl (one_of HT_.out (by kernel_rfl)) (by decide) (fun K hK => ?_)
             refine goes_ Tryd.func15 (by kernel_rfl) rfl #[.int .u8 11, .int .i64 0, .string a0] (by rfl) rfl rfl (by (try simp only [List.map_toArray, List.map_cons, List.map_nil]); first | done | rfl | (simp only [List.length_drop, List.length_take]; rfl)) ?_
             with_reducible refine (laws_whole.calls k2 11 0 a0 t221 _ A54.out).mono ?_
             rintro e w57 ⟨rfl, hb⟩
             have HS0_ := (hb.cell (World.block_lt_of_cell? _ _ (hHeld.1))).trans (hHeld.1)
             have HS1_ := (hb.cell (World.block_lt_of_cell? _ _ (hHeld.2.1))).trans (hHeld.2.1)
             have HS2_ := (hb.cell (World.block_lt_of_cell? _ _ (hHeld.2.2.1))).trans (hHeld.2.2.1)
             have HS3_ := (hb.cell (World.block_lt_of_cell? _ _ (hHeld.2.2.2.1))).trans (hHeld.2.2.2.1)
             have HS4_ := (hb.cell (World.block_lt_of_cell? _ _ (hHeld.2.2.2.2.1))).trans (hHeld.2.2.2.2.1)
             have HS5_ := (hb.cell (World.block_lt_of_cell? _ _ (hHeld.2.2.2.2.2.1))).trans (hHeld.2.2.2.2.2.1)
             have HS6_ := (hb.cell (World.block_lt_of_cell? _ _ (hHeld.2.2.2.2.2.2.1))).trans (hHeld.2.2.2.2.2.2.1)
             have HS7_ := (hb.cell (World.block_lt_of_cell? _ _ (hHeld.2.2.2.2.2.2.2.1))).trans (hHeld.2.2.2.2.2.2.2.1)
             have HS8_ := (hb.cell (World.block_lt_of_cell? _ _ (hHeld.2.2.2.2.2.2.2.2.1))).trans (hHeld.2.2.2.2.2.2.2.2.1)
             have HS9_ := (hb.cell (World.block_lt_of_cell? _ _ (hHeld.2.2.2.2.2.2.2.2.2.1))).trans (hHeld.2.2.2.2.2.2.2.2.2.1)
             have HS10_ := (hb.cell (World.block_lt_of_cell? _ _ (hHeld.2.2.2.2.2.2.2.2.2.2.1))).trans (hHeld.2.2.2.2.2.2.2.2.2.2.1)
             have HS11_ := (hb.cell (World.block_lt_of_cell? _ _ (hHeld.2.2.2.2.2.2.2.2.2.2.2.1))).trans (hHeld.2.2.2.2.2.2.2.2.2.2.2.1)
             have HS12_ := (hb.cell (World.block_lt_of_cell? _ _ (hHeld.2.2.2.2.2.2.2.2.2.2.2.2.1))).trans (hHeld.2.2.2.2.2.2.2.2.2.2.2.2.1)
             have HS13_ := (hb.cell (World.block_lt_of_cell? _ _ (hHeld.2.2.2.2.2.2.2.2.2.2.2.2.2))).trans (hHeld.2.2.2.2.2.2.2.2.2.2.2.2.2)
             refine ⟨_, rfl, ?_⟩
             have n0_ := Aside0.mk (Kd.R_below (by (with_reducible repeat (first | apply Kd.R_alloc | apply Kd.R_drewN | apply Kd.R_drew)); exact HO_8.out) hb)
             have n1_ := Aside0.mk (Kd.R_below (by (with_reducible repeat (first | apply Kd.R_alloc | apply Kd.R_drewN | apply Kd.R_drew)); exact HO_38.out) hb)
             have n2_ := Aside0.mk (Kd.R_below (by (with_reducible repeat (first | apply Kd.R_alloc | apply Kd.R_drewN | apply Kd.R_drew)); exact HO209.out) hb)
             have n3_ := Aside0.mk (Kd.R_below (by (with_reducible repeat (first | apply Kd.R_alloc | apply Kd.R_drewN | apply Kd.R_drew)); exact HO212.out) hb)
             have n4_ := Aside0.mk (Kd.R_below (by (with_reducible repeat (first | apply Kd.R_alloc | apply Kd.R_drewN | apply Kd.R_drew)); exact HO215.out) hb)
             have n5_ := Aside0.mk (Kd.R_below (by (with_reducible repeat (first | apply Kd.R_alloc | apply Kd.R_drewN | apply Kd.R_drew)); exact HO218.out) hb)
             have n6_ := Aside0.mk (below_step (by repeat (first | (with_reducible first | exact HB.out | apply below_alloc | apply pw_below_drewN | apply below_drew1) | exact HB.out)) hb)
             clear HO_8
             clear HO_38
             clear HO209
             clear HO212
             clear HO215
             clear HO218
             clear HB
             have HO_8 := n0_
             have HO_38 := n1_
             have HO209 := n2_
             have HO212 := n3_
             have HO215 := n4_
             have HO218 := n5_
             have HB := n6_
             clear n0_ n1_ n2_ n3_ n4_ n5_ n6_
             (try clear hb)
             (try clear hb2)
             (try clear hk)
             (try clear hi)
             refine hK.out _ _ ⟨HS0_, HS1_, HS2_, HS3_, HS4_, HS5_, HS6_, HS7_, HS8_, HS9_, HS10_, HS11_, HS12_, HS13_⟩ (fun hHeld => ?_)
             clear hK K
             refine norm_ (a' := ?_) ?_ ?_
             rotate_left
             ·show Act.put _ (some 82) _ = _
              simp only [Act.put, List.setIfInBounds_toArray, List.set_cons_zero, List.set_cons_succ, i64_w, i32_w]
              rfl
             refine pure_ (i := 19) (N := some 83) (v := ?_) (a' := ?_) #[true, true, true, true, true, true, true, true, true, true, true, true, true, true, true, true, true, true, true, true, false] rfl rfl (any_of HT_.out (by kernel_rfl)) (fun _ _ _ h => h) (Or.inl ⟨by rfl, ?_⟩) ?_ ?_
             rotate_left
             ·intro w'
              go_simp
              with_reducible rfl
             rotate_left
             ·simp only [Act.put, List.setIfInBounds_toArray, List.set_cons_zero, List.set_cons_succ, i64_w, i32_w]
              rfl
             refine pure_ (i := 20) (N := some 84) (v := ?_) (a' := ?_) #[true, true, true, true, true, true, true, true, true, true, true, true, true, true, true, true, true, true, true, true, true] rfl rfl (any_of HT_.out (by kernel_rfl)) (fun _ _ _ h => h) (Or.inl ⟨by rfl, ?_⟩) ?_ ?_
             rotate_left
             ·intro w'
              go_simp
              with_reducible rfl
             rotate_left
             ·simp only [Act.put, List.setIfInBounds_toArray, List.set_cons_zero, List.set_cons_succ, i64_w, i32_w]
              rfl
             refine done_ (done_of HT_.out (by kernel_rfl)) ?_
             try go_wp2
             go_meet
             case rel => exact ⟨_, ((((rd_T43 t216 1).f4).toList != t221.toList)), (by first | rfl | (simp; done) | (simp [*]; done)), H', ⟨by have := HJ3.out; have := HK2.out; first | omega | exact Nat.le_refl _⟩, ⟨by (with_reducible repeat (first | apply Kd.R_alloc | apply Kd.R_drewN | apply Kd.R_drew)); exact Kd.R_mono HO_8.out (fun _ hk => trivial)⟩, ⟨by (with_reducible repeat (first | apply Kd.R_alloc | apply Kd.R_drewN | apply Kd.R_drew)); exact HO218.out⟩, ⟨by repeat (first | (with_reducible first | exact HB.out | apply below_alloc | apply pw_below_drewN | apply below_drew1) | exact HB.out)⟩⟩
            ·replace c53 := Bool.eq_false_iff.mpr c53
             subst c53
             have H1 : (laws_FnOldPieces.j2 k2 a1 t194 t216 true) = some r := by rw [if_neg (show ¬ (false = true) by decide)] at H; exact H
             clear H
             have H := H1
             clear H1
             have H' := Aside0.mk H
             clear H
             try go_wp2
             have n0_ := Aside0.mk (Kd.R_drew HO_8.out)
             have n1_ := Aside0.mk (Kd.R_drew HO_38.out)
             have n2_ := Aside0.mk (Kd.R_drew HO209.out)
             have n3_ := Aside0.mk (Kd.R_drew HO212.out)
             have n4_ := Aside0.mk (Kd.R_drew HO215.out)
             have n5_ := Aside0.mk (Kd.R_drew HO218.out)
             have n6_ := Aside0.mk (below_drew1 HB.out)
             clear HO_8
             clear HO_38
             clear HO209
             clear HO212
             clear HO215
             clear HO218
             clear HB
             have HO_8 := n0_
             have HO_38 := n1_
             have HO209 := n2_
             have HO212 := n3_
             have HO215 := n4_
             have HO218 := n5_
             have HB := n6_
             clear n0_ n1_ n2_ n3_ n4_ n5_ n6_
             obtain ⟨Ao59, co59, eo59⟩ := Kd.R_slice HO218.out
             (first | subst eo59 | (injection eo59 with f1_ f2_ f3_; have f4_ := f1_.symm; have f5_ := f3_.symm; clear f1_ f2_ f3_; subst f4_; subst f5_))
             have p219 : 0 ≤ (1 : Int) := (by omega)
             have q219 : 1 < (t216.length : Int) := of_decide_eq_true (by first | (with_reducible assumption) | assumption)
             obtain ⟨ad219, e219, hx219_0, hx219_1, hx219_2, hx219_3, hx219_4, hx219_5, hx219_6⟩ := at_T43 (Kd.R_reads' HO218.out).2.2 1 p219 q219
             (try rw [← Nbq52.out] at hx219_0)
             (try rw [← Nbq52.out] at hx219_1)
             (try rw [← Nbq52.out] at hx219_2)
             (try rw [← Nbq52.out] at hx219_3)
             cases e219
             (try simp only [show (1 : Int).toNat = 1 from rfl, Nat.reduceMul, Nat.reduceEqDiff, Go.Addr.add, ↓reduceIte] at hx219_0)
             (try simp only [show (1 : Int).toNat = 1 from rfl, Nat.reduceMul, Nat.reduceEqDiff, Go.Addr.add, ↓reduceIte] at hx219_1)
             (try simp only [show (1 : Int).toNat = 1 from rfl, Nat.reduceMul, Nat.reduceEqDiff, Go.Addr.add, ↓reduceIte] at hx219_2)
             (try simp only [show (1 : Int).toNat = 1 from rfl, Nat.reduceMul, Nat.reduceEqDiff, Go.Addr.add, ↓reduceIte] at hx219_3)
             (try simp only [show (1 : Int).toNat = 1 from rfl, Nat.reduceMul, Nat.reduceEqDiff, Go.Addr.add, ↓reduceIte] at hx219_4)
             (try simp only [show (1 : Int).toNat = 1 from rfl, Nat.reduceMul, Nat.reduceEqDiff, Go.Addr.add, ↓reduceIte] at hx219_5)
             (try simp only [show (1 : Int).toNat = 1 from rfl, Nat.reduceMul, Nat.reduceEqDiff, Go.Addr.add, ↓reduceIte] at hx219_6)
             have qi219 : (1 < t216.length) = True := eq_true (by omega)
             (try rw [show ((1 : Int)).toNat = 1 from rfl] at hx219_0)
             (try rw [show 1 * 7 = 7 from rfl] at hx219_0)
             (try rw [show ((1 : Int)).toNat = 1 from rfl] at hx219_1)
             (try rw [show 1 * 7 = 7 from rfl] at hx219_1)
             (try rw [show ((1 : Int)).toNat = 1 from rfl] at hx219_2)
             (try rw [show 1 * 7 = 7 from rfl] at hx219_2)
             (try rw [show ((1 : Int)).toNat = 1 from rfl] at hx219_3)
             (try rw [show 1 * 7 = 7 from rfl] at hx219_3)
             (try rw [show ((1 : Int)).toNat = 1 from rfl] at hx219_4)
             (try rw [show 1 * 7 = 7 from rfl] at hx219_4)
             (try rw [show ((1 : Int)).toNat = 1 from rfl] at hx219_5)
             (try rw [show 1 * 7 = 7 from rfl] at hx219_5)
             (try rw [show ((1 : Int)).toNat = 1 from rfl] at hx219_6)
             (try rw [show 1 * 7 = 7 from rfl] at hx219_6)
             replace p219 := eq_true p219
             replace q219 := eq_true q219
             refine start_ (n := 21) (S := fun w' => w'.cell? ⟨ad219.block, ad219.off + 7, none⟩ = some (.bool ((rd_T43 t216 1).f0)) ∧ w'.cell? ⟨ad219.block, ad219.off + 7 + 1, none⟩ = some (.bool ((rd_T43 t216 1).f1)) ∧ w'.cell? ⟨ad219.block, ad219.off + 7 + 2, none⟩ = some (.bool ((rd_T43 t216 1).f2)) ∧ w'.cell? ⟨ad219.block, ad219.off + 7 + 3, none⟩ = some (.bool false) ∧ w'.cell? ⟨ad219.block, ad219.off + 7 + 4, none⟩ = some (.string ((rd_T43 t216 1).f4)) ∧ w'.cell? ⟨ad219.block, ad219.off + 7 + 5, none⟩ = some (.int .u16 ((rd_T43 t216 1).f5)) ∧ w'.cell? ⟨ad219.block, ad219.off + 7 + 6, none⟩ = some (.int .i64 ((rd_T43 t216 1).f6))) (ds := []) #[false, false, false, false, false, false, false, false, false, false, false, false, false, false, false, false, false, false, false, false, false] (by kernel_rfl) rfl rfl ⟨hx219_0, hx219_1, hx219_2, hx219_3, hx219_4, hx219_5, hx219_6⟩ (fun hHeld => ?_); refine with_tabW laws_FnOldPieces.tab14 laws_FnOldPieces.bits14 (fun HT_ HW_ => ?_)
             generalize w49.drew = w58 at HO_8 HO_38 HO209 HO212 HO215 HO218 HB hx219_0 hx219_1 hx219_2 hx219_3 hx219_4 hx219_5 hx219_6 hHeld ⊢
             refine pure_ (i := 0) (N := some 64) (v := ?_) (a' := ?_) #[true, false, false, false, false, false, false, false, false, false, false, false, false, false, false, false, false, false, false, false, false] rfl rfl (any_of HT_.out (by kernel_rfl)) (fun _ _ _ h => h) (Or.inl ⟨by rfl, ?_⟩) ?_ ?_
             rotate_left
             ·intro w'
              go_simp
              with_reducible rfl
             rotate_left
             ·simp only [Act.put, List.setIfInBounds_toArray, List.set_cons_zero, List.set_cons_succ, i64_w, i32_w]
              rfl
             refine pure_ (i := 1) (N := some 65) (v := ?_) (a' := ?_) #[true, true, false, false, false, false, false, false, false, false, false, false, false, false, false, false, false, false, false, false, false] rfl rfl (any_of HT_.out (by kernel_rfl)) (fun _ _ _ h => h) (Or.inl ⟨by rfl, ?_⟩) ?_ ?_
             rotate_left
             ·intro w'
              go_simp
              with_reducible rfl
             rotate_left
             ·simp only [Act.put, List.setIfInBounds_toArray, List.set_cons_zero, List.set_cons_succ, i64_w, i32_w]
              rfl
             refine pure_ (i := 2) (N := some 66) (v := ?_) (a' := ?_) #[true, true, true, false, false, false, false, false, false, false, false, false, false, false, false, false, false, false, false, false, false] rfl rfl (any_of HT_.out (by kernel_rfl)) (fun _ _ _ h => h) (Or.inl ⟨by rfl, ?_⟩) ?_ ?_
             rotate_left
             ·intro w'
              go_simp
              with_reducible rfl
             rotate_left
             ·simp only [Act.put, List.setIfInBounds_toArray, List.set_cons_zero, List.set_cons_succ, i64_w, i32_w]
              rfl
             refine pure_ (i := 3) (N := some 67) (v := ?_) (a' := ?_) #[true, true, true, true, false, false, false, false, false, false, false, false, false, false, false, false, false, false, false, false, false] rfl rfl (any_of HT_.out (by kernel_rfl)) (fun _ _ _ h => h) (Or.inl ⟨by rfl, ?_⟩) ?_ ?_
             rotate_left
             ·intro w'
              go_simp
              with_reducible rfl
             rotate_left
             ·simp only [Act.put, List.setIfInBounds_toArray, List.set_cons_zero, List.set_cons_succ, i64_w, i32_w]
              rfl
             refine pure_ (i := 4) (N := some 68) (v := ?_) (a' := ?_) #[true, true, true, true, true, false, false, false, false, false, false, false, false, false, false, false, false, false, false, false, false] rfl rfl (any_of HT_.out (by kernel_rfl)) (fun _ _ _ h => h) (Or.inl ⟨by rfl, ?_⟩) ?_ ?_
             rotate_left
             ·intro w'
              go_simp
              with_reducible rfl
             rotate_left
             ·simp only [Act.put, List.setIfInBounds_toArray, List.set_cons_zero, List.set_cons_succ, i64_w, i32_w]
              rfl
             refine pure_ (i := 5) (N := some 69) (v := ?_) (a' := ?_) #[true, true, true, true, true, true, false, false, false, false, false, false, false, false, false, false, false, false, false, false, false] rfl rfl (any_of HT_.out (by kernel_rfl)) (fun _ _ _ h => h) (Or.inl ⟨by rfl, ?_⟩) ?_ ?_
             rotate_left
             ·intro w'
              go_simp
              with_reducible rfl
             rotate_left
             ·simp only [Act.put, List.setIfInBounds_toArray, List.set_cons_zero, List.set_cons_succ, i64_w, i32_w]
              rfl
             refine pure_ (i := 6) (N := some 70) (v := ?_) (a' := ?_) #[true, true, true, true, true, true, true, false, false, false, false, false, false, false, false, false, false, false, false, false, false] rfl rfl (any_of HT_.out (by kernel_rfl)) (fun _ _ _ h => h) (Or.inl ⟨by rfl, ?_⟩) ?_ ?_
             rotate_left
             ·intro w'
              go_simp
              with_reducible rfl
             rotate_left
             ·simp only [Act.put, List.setIfInBounds_toArray, List.set_cons_zero, List.set_cons_succ, i64_w, i32_w]
              rfl
             refine pure_ (i := 7) (N := some 71) (v := ?_) (a' := ?_) #[true, true, true, true, true, true, true, true, false, false, false, false, false, false, false, false, false, false, false, false, false] rfl rfl (any_of HT_.out (by kernel_rfl)) (fun _ _ _ h => h) (Or.inl ⟨by rfl, ?_⟩) ?_ ?_
             rotate_left
             ·intro w'
              go_simp
              with_reducible rfl
             rotate_left
             ·simp only [Act.put, List.setIfInBounds_toArray, List.set_cons_zero, List.set_cons_succ, i64_w, i32_w]
              rfl
             refine pure_ (i := 8) (N := some 72) (v := ?_) (a' := ?_) #[true, true, true, true, true, true, true, true, true, false, false, false, false, false, false, false, false, false, false, false, false] rfl rfl (any_of HT_.out (by kernel_rfl)) (fun _ _ _ h => h) (Or.inl ⟨by rfl, ?_⟩) ?_ ?_
             rotate_left
             ·intro w'
              go_simp
              with_reducible rfl
             rotate_left
             ·simp only [Act.put, List.setIfInBounds_toArray, List.set_cons_zero, List.set_cons_succ, i64_w, i32_w]
              rfl
             refine take_ (i := 9) (N := some 73) (v := ?_) (a' := ?_) #[true, true, true, true, true, true, true, true, true, true, false, false, false, false, false, false, false, false, false, false, false] rfl rfl (take_ofW HT_.out HW_.out (by kernel_rfl)) (fun _ _ _ h => h) (Or.inl ⟨by rfl, ?_⟩) hHeld ?_ ?_
             rotate_left
             ·rintro w' ⟨s0, s1, s2, s3, s4, s5, s6⟩
              go_simp
              with_reducible rfl
             rotate_left
             ·simp only [Act.put, List.setIfInBounds_toArray, List.set_cons_zero, List.set_cons_succ, i64_w, i32_w]
              rfl
             refine pure_ (i := 10) (N := some 74) (v := ?_) (a' := ?_) #[true, true, true, true, true, true, true, true, true, true, true, false, false, false, false, false, false, false, false, false, false] rfl rfl (any_of HT_.out (by kernel_rfl)) (fun _ _ _ h => h) (Or.inl ⟨by rfl, ?_⟩) ?_ ?_
             rotate_left
             ·intro w'
              go_simp
              with_reducible rfl
             rotate_left
             ·simp only [Act.put, List.setIfInBounds_toArray, List.set_cons_zero, List.set_cons_succ, i64_w, i32_w]
              rfl
             refine pure_ (i := 11) (N := some 75) (v := ?_) (a' := ?_) #[true, true, true, true, true, true, true, true, true, true, true, true, false, false, false, false, false, false, false, false, false] rfl rfl (any_of HT_.out (by kernel_rfl)) (fun _ _ _ h => h) (Or.inl ⟨by rfl, ?_⟩) ?_ ?_
             rotate_left
             ·intro w'
              go_simp
              with_reducible rfl
             rotate_left
             ·simp only [Act.put, List.setIfInBounds_toArray, List.set_cons_zero, List.set_cons_succ, i64_w, i32_w]
              rfl
             refine pure_ (i := 12) (N := some 76) (v := ?_) (a' := ?_) #[true, true, true, true, true, true, true, true, true, true, true, true, true, false, false, false, false, false, false, false, false] rfl rfl (any_of HT_.out (by kernel_rfl)) (fun _ _ _ h => h) (Or.inl ⟨by rfl, ?_⟩) ?_ ?_
             rotate_left
             ·intro w'
              go_simp
              with_reducible rfl
             rotate_left
             ·simp only [Act.put, List.setIfInBounds_toArray, List.set_cons_zero, List.set_cons_succ, i64_w, i32_w]
              rfl
             refine pure_ (i := 13) (N := some 77) (v := undef) (a' := ?_) #[true, true, true, true, true, true, true, true, true, true, true, true, true, true, false, false, false, false, false, false, false] rfl rfl (any_of HT_.out (by kernel_rfl)) (fun _ _ _ h => h) (Or.inr ⟨by rfl, rfl⟩) ?_ ?_
             rotate_left
             ·simp only [Act.put, List.setIfInBounds_toArray, List.set_cons_zero, List.set_cons_succ, i64_w, i32_w]
              rfl
             refine pure_ (i := 14) (N := some 78) (v := undef) (a' := ?_) #[true, true, true, true, true, true, true, true, true, true, true, true, true, true, true, false, false, false, false, false, false] rfl rfl (any_of HT_.out (by kernel_rfl)) (fun _ _ _ h => h) (Or.inr ⟨by rfl, rfl⟩) ?_ ?_
             rotate_left
             ·simp only [Act.put, List.setIfInBounds_toArray, List.set_cons_zero, List.set_cons_succ, i64_w, i32_w]
              rfl
             refine pure_ (i := 15) (N := some 79) (v := undef) (a' := ?_) #[true, true, true, true, true, true, true, true, true, true, true, true, true, true, true, true, false, false, false, false, false] rfl rfl (any_of HT_.out (by kernel_rfl)) (fun _ _ _ h => h) (Or.inr ⟨by rfl, rfl⟩) ?_ ?_
             rotate_left
             ·simp only [Act.put, List.setIfInBounds_toArray, List.set_cons_zero, List.set_cons_succ, i64_w, i32_w]
              rfl
             refine pure_ (i := 16) (N := some 80) (v := undef) (a' := ?_) #[true, true, true, true, true, true, true, true, true, true, true, true, true, true, true, true, true, false, false, false, false] rfl rfl (any_of HT_.out (by kernel_rfl)) (fun _ _ _ h => h) (Or.inr ⟨by rfl, rfl⟩) ?_ ?_
             rotate_left
             ·simp only [Act.put, List.setIfInBounds_toArray, List.set_cons_zero, List.set_cons_succ, i64_w, i32_w]
              rfl
             refine pure_ (i := 17) (N := some 81) (v := undef) (a' := ?_) #[true, true, true, true, true, true, true, true, true, true, true, true, true, true, true, true, true, true, false, false, false] rfl rfl (any_of HT_.out (by kernel_rfl)) (fun _ _ _ h => h) (Or.inr ⟨by rfl, rfl⟩) ?_ ?_
             rotate_left
             ·simp only [Act.put, List.setIfInBounds_toArray, List.set_cons_zero, List.set_cons_succ, i64_w, i32_w]
              rfl
             refine pure_ (i := 18) (N := some 82) (v := undef) (a' := ?_) #[true, true, true, true, true, true, true, true, true, true, true, true, true, true, true, true, true, true, true, false, false] rfl rfl (any_of HT_.out (by kernel_rfl)) (fun _ _ _ h => h) (Or.inr ⟨by rfl, rfl⟩) ?_ ?_
             rotate_left
             ·simp only [Act.put, List.setIfInBounds_toArray, List.set_cons_zero, List.set_cons_succ, i64_w, i32_w]
              rfl
             refine pure_ (i := 19) (N := some 83) (v := undef) (a' := ?_) #[true, true, true, true, true, true, true, true, true, true, true, true, true, true, true, true, true, true, true, true, false] rfl rfl (any_of HT_.out (by kernel_rfl)) (fun _ _ _ h => h) (Or.inr ⟨by rfl, rfl⟩) ?_ ?_
             rotate_left
             ·simp only [Act.put, List.setIfInBounds_toArray, List.set_cons_zero, List.set_cons_succ, i64_w, i32_w]
              rfl
             refine pure_ (i := 20) (N := some 84) (v := ?_) (a' := ?_) #[true, true, true, true, true, true, true, true, true, true, true, true, true, true, true, true, true, true, true, true, true] rfl rfl (any_of HT_.out (by kernel_rfl)) (fun _ _ _ h => h) (Or.inl ⟨by rfl, ?_⟩) ?_ ?_
             rotate_left
             ·intro w'
              go_simp
              with_reducible rfl
             rotate_left
             ·simp only [Act.put, List.setIfInBounds_toArray, List.set_cons_zero, List.set_cons_succ, i64_w, i32_w]
              rfl
             refine done_ (done_of HT_.out (by kernel_rfl)) ?_
             try go_wp2
             go_meet
             case rel => exact ⟨_, (true), (by first | rfl | (simp; done) | (simp [*]; done)), H', ⟨by have := HJ3.out; have := HK2.out; first | omega | exact Nat.le_refl _⟩, ⟨by (with_reducible repeat (first | apply Kd.R_alloc | apply Kd.R_drewN | apply Kd.R_drew)); exact Kd.R_mono HO_8.out (fun _ hk => trivial)⟩, ⟨by (with_reducible repeat (first | apply Kd.R_alloc | apply Kd.R_drewN | apply Kd.R_drew)); exact HO218.out⟩, ⟨by repeat (first | (with_reducible first | exact HB.out | apply below_alloc | apply pw_below_drewN | apply below_drew1) | exact HB.out)⟩⟩
           ·rw [if_neg c51] at H
            exact absurd H (by simp)
          ·rw [if_neg c50] at H
           have c50b0 : ((t216.length : Int) == (y213.length : Int)) = false := beq_eq_false_iff_ne.mpr c50
           have c50b1 : ((t216.length : Int) != (y213.length : Int)) = true := bne_iff_ne.mpr c50
           have c50b2 : (t216.length == y213.length) = false := by first | simpa using c50 | (simp at c50 ⊢; omega)
           (first | rw [c50b0] | (simp only [i64_w, i32_w]; rw [c50b0]) | skip)
           have H' := Aside0.mk H
           clear H
           try go_wp2
           have n0_ := Aside0.mk (Kd.R_drew HO_8.out)
           have n1_ := Aside0.mk (Kd.R_drew HO_38.out)
           have n2_ := Aside0.mk (Kd.R_drew HO209.out)
           have n3_ := Aside0.mk (Kd.R_drew HO212.out)
           have n4_ := Aside0.mk (Kd.R_drew HO215.out)
           have n5_ := Aside0.mk (Kd.R_drew HO218.out)
           have n6_ := Aside0.mk (below_drew1 HB.out)
           clear HO_8
           clear HO_38
           clear HO209
           clear HO212
           clear HO215
           clear HO218
           clear HB
           have HO_8 := n0_
           have HO_38 := n1_
           have HO209 := n2_
           have HO212 := n3_
           have HO215 := n4_
           have HO218 := n5_
           have HB := n6_
           clear n0_ n1_ n2_ n3_ n4_ n5_ n6_
           obtain ⟨Ao61, co61, eo61⟩ := Kd.R_slice HO218.out
           (first | subst eo61 | (injection eo61 with f1_ f2_ f3_; have f4_ := f1_.symm; have f5_ := f3_.symm; clear f1_ f2_ f3_; subst f4_; subst f5_))
           refine start_ (n := 21) (S := fun w' => True) (ds := []) #[false, false, false, false, false, false, false, false, false, false, false, false, false, false, false, false, false, false, false, false, false] (by kernel_rfl) rfl rfl trivial (fun hHeld => ?_); refine with_tabW laws_FnOldPieces.tab14 laws_FnOldPieces.bits14 (fun HT_ HW_ => ?_)
           generalize w49.drew = w60 at HO_8 HO_38 HO209 HO212 HO215 HO218 HB hHeld ⊢
           refine pure_ (i := 0) (N := some 64) (v := ?_) (a' := ?_) #[true, false, false, false, false, false, false, false, false, false, false, false, false, false, false, false, false, false, false, false, false] rfl rfl (any_of HT_.out (by kernel_rfl)) (fun _ _ _ h => h) (Or.inl ⟨by rfl, ?_⟩) ?_ ?_
           rotate_left
           ·intro w'
            go_simp
            with_reducible rfl
           rotate_left
           ·simp only [Act.put, List.setIfInBounds_toArray, List.set_cons_zero, List.set_cons_succ, i64_w, i32_w]
            rfl
           refine pure_ (i := 1) (N := some 65) (v := ?_) (a' := ?_) #[true, true, false, false, false, false, false, false, false, false, false, false, false, false, false, false, false, false, false, false, false] rfl rfl (any_of HT_.out (by kernel_rfl)) (fun _ _ _ h => h) (Or.inl ⟨by rfl, ?_⟩) ?_ ?_
           rotate_left
           ·intro w'
            go_simp
            with_reducible rfl
           rotate_left
           ·simp only [Act.put, List.setIfInBounds_toArray, List.set_cons_zero, List.set_cons_succ, i64_w, i32_w]
            rfl
           refine pure_ (i := 2) (N := some 66) (v := ?_) (a' := ?_) #[true, true, true, false, false, false, false, false, false, false, false, false, false, false, false, false, false, false, false, false, false] rfl rfl (any_of HT_.out (by kernel_rfl)) (fun _ _ _ h => h) (Or.inl ⟨by rfl, ?_⟩) ?_ ?_
           rotate_left
           ·intro w'
            go_simp
            with_reducible rfl
           rotate_left
           ·simp only [Act.put, List.setIfInBounds_toArray, List.set_cons_zero, List.set_cons_succ, i64_w, i32_w]
            rfl
           refine pure_ (i := 3) (N := some 67) (v := ?_) (a' := ?_) #[true, true, true, true, false, false, false, false, false, false, false, false, false, false, false, false, false, false, false, false, false] rfl rfl (any_of HT_.out (by kernel_rfl)) (fun _ _ _ h => h) (Or.inl ⟨by rfl, ?_⟩) ?_ ?_
           rotate_left
           ·intro w'
            go_simp
            with_reducible rfl
           rotate_left
           ·simp only [Act.put, List.setIfInBounds_toArray, List.set_cons_zero, List.set_cons_succ, i64_w, i32_w]
            rfl
           refine pure_ (i := 4) (N := some 68) (v := ?_) (a' := ?_) #[true, true, true, true, true, false, false, false, false, false, false, false, false, false, false, false, false, false, false, false, false] rfl rfl (any_of HT_.out (by kernel_rfl)) (fun _ _ _ h => h) (Or.inl ⟨by rfl, ?_⟩) ?_ ?_
           rotate_left
           ·intro w'
            go_simp
            with_reducible rfl
           rotate_left
           ·simp only [Act.put, List.setIfInBounds_toArray, List.set_cons_zero, List.set_cons_succ, i64_w, i32_w]
            rfl
           refine pure_ (i := 5) (N := some 69) (v := ?_) (a' := ?_) #[true, true, true, true, true, true, false, false, false, false, false, false, false, false, false, false, false, false, false, false, false] rfl rfl (any_of HT_.out (by kernel_rfl)) (fun _ _ _ h => h) (Or.inl ⟨by rfl, ?_⟩) ?_ ?_
           rotate_left
           ·intro w'
            go_simp
            with_reducible rfl
           rotate_left
           ·simp only [Act.put, List.setIfInBounds_toArray, List.set_cons_zero, List.set_cons_succ, i64_w, i32_w]
            rfl
           refine pure_ (i := 6) (N := some 70) (v := undef) (a' := ?_) #[true, true, true, true, true, true, true, false, false, false, false, false, false, false, false, false, false, false, false, false, false] rfl rfl (any_of HT_.out (by kernel_rfl)) (fun _ _ _ h => h) (Or.inr ⟨by rfl, rfl⟩) ?_ ?_
           rotate_left
           ·simp only [Act.put, List.setIfInBounds_toArray, List.set_cons_zero, List.set_cons_succ, i64_w, i32_w]
            rfl
           refine pure_ (i := 7) (N := some 71) (v := undef) (a' := ?_) #[true, true, true, true, true, true, true, true, false, false, false, false, false, false, false, false, false, false, false, false, false] rfl rfl (any_of HT_.out (by kernel_rfl)) (fun _ _ _ h => h) (Or.inr ⟨by rfl, rfl⟩) ?_ ?_
           rotate_left
           ·simp only [Act.put, List.setIfInBounds_toArray, List.set_cons_zero, List.set_cons_succ, i64_w, i32_w]
            rfl
           refine pure_ (i := 8) (N := some 72) (v := undef) (a' := ?_) #[true, true, true, true, true, true, true, true, true, false, false, false, false, false, false, false, false, false, false, false, false] rfl rfl (any_of HT_.out (by kernel_rfl)) (fun _ _ _ h => h) (Or.inr ⟨by rfl, rfl⟩) ?_ ?_
           rotate_left
           ·simp only [Act.put, List.setIfInBounds_toArray, List.set_cons_zero, List.set_cons_succ, i64_w, i32_w]
            rfl
           refine pure_ (i := 9) (N := some 73) (v := undef) (a' := ?_) #[true, true, true, true, true, true, true, true, true, true, false, false, false, false, false, false, false, false, false, false, false] rfl rfl (any_of HT_.out (by kernel_rfl)) (fun _ _ _ h => h) (Or.inr ⟨by rfl, rfl⟩) ?_ ?_
           rotate_left
           ·simp only [Act.put, List.setIfInBounds_toArray, List.set_cons_zero, List.set_cons_succ, i64_w, i32_w]
            rfl
           refine pure_ (i := 10) (N := some 74) (v := undef) (a' := ?_) #[true, true, true, true, true, true, true, true, true, true, true, false, false, false, false, false, false, false, false, false, false] rfl rfl (any_of HT_.out (by kernel_rfl)) (fun _ _ _ h => h) (Or.inr ⟨by rfl, rfl⟩) ?_ ?_
           rotate_left
           ·simp only [Act.put, List.setIfInBounds_toArray, List.set_cons_zero, List.set_cons_succ, i64_w, i32_w]
            rfl
           refine pure_ (i := 11) (N := some 75) (v := ?_) (a' := ?_) #[true, true, true, true, true, true, true, true, true, true, true, true, false, false, false, false, false, false, false, false, false] rfl rfl (any_of HT_.out (by kernel_rfl)) (fun _ _ _ h => h) (Or.inl ⟨by rfl, ?_⟩) ?_ ?_
           rotate_left
           ·intro w'
            go_simp
            with_reducible rfl
           rotate_left
           ·simp only [Act.put, List.setIfInBounds_toArray, List.set_cons_zero, List.set_cons_succ, i64_w, i32_w]
            rfl
           refine pure_ (i := 12) (N := some 76) (v := ?_) (a' := ?_) #[true, true, true, true, true, true, true, true, true, true, true, true, true, false, false, false, false, false, false, false, false] rfl rfl (any_of HT_.out (by kernel_rfl)) (fun _ _ _ h => h) (Or.inl ⟨by rfl, ?_⟩) ?_ ?_
           rotate_left
           ·intro w'
            go_simp
            with_reducible rfl
           rotate_left
           ·simp only [Act.put, List.setIfInBounds_toArray, List.set_cons_zero, List.set_cons_succ, i64_w, i32_w]
            rfl
           refine pure_ (i := 13) (N := some 77) (v := undef) (a' := ?_) #[true, true, true, true, true, true, true, true, true, true, true, true, true, true, false, false, false, false, false, false, false] rfl rfl (any_of HT_.out (by kernel_rfl)) (fun _ _ _ h => h) (Or.inr ⟨by rfl, rfl⟩) ?_ ?_
           rotate_left
           ·simp only [Act.put, List.setIfInBounds_toArray, List.set_cons_zero, List.set_cons_succ, i64_w, i32_w]
            rfl
           refine pure_ (i := 14) (N := some 78) (v := undef) (a' := ?_) #[true, true, true, true, true, true, true, true, true, true, true, true, true, true, true, false, false, false, false, false, false] rfl rfl (any_of HT_.out (by kernel_rfl)) (fun _ _ _ h => h) (Or.inr ⟨by rfl, rfl⟩) ?_ ?_
           rotate_left
           ·simp only [Act.put, List.setIfInBounds_toArray, List.set_cons_zero, List.set_cons_succ, i64_w, i32_w]
            rfl
           refine pure_ (i := 15) (N := some 79) (v := undef) (a' := ?_) #[true, true, true, true, true, true, true, true, true, true, true, true, true, true, true, true, false, false, false, false, false] rfl rfl (any_of HT_.out (by kernel_rfl)) (fun _ _ _ h => h) (Or.inr ⟨by rfl, rfl⟩) ?_ ?_
           rotate_left
           ·simp only [Act.put, List.setIfInBounds_toArray, List.set_cons_zero, List.set_cons_succ, i64_w, i32_w]
            rfl
           refine pure_ (i := 16) (N := some 80) (v := undef) (a' := ?_) #[true, true, true, true, true, true, true, true, true, true, true, true, true, true, true, true, true, false, false, false, false] rfl rfl (any_of HT_.out (by kernel_rfl)) (fun _ _ _ h => h) (Or.inr ⟨by rfl, rfl⟩) ?_ ?_
           rotate_left
           ·simp only [Act.put, List.setIfInBounds_toArray, List.set_cons_zero, List.set_cons_succ, i64_w, i32_w]
            rfl
           refine pure_ (i := 17) (N := some 81) (v := undef) (a' := ?_) #[true, true, true, true, true, true, true, true, true, true, true, true, true, true, true, true, true, true, false, false, false] rfl rfl (any_of HT_.out (by kernel_rfl)) (fun _ _ _ h => h) (Or.inr ⟨by rfl, rfl⟩) ?_ ?_
           rotate_left
           ·simp only [Act.put, List.setIfInBounds_toArray, List.set_cons_zero, List.set_cons_succ, i64_w, i32_w]
            rfl
           refine pure_ (i := 18) (N := some 82) (v := undef) (a' := ?_) #[true, true, true, true, true, true, true, true, true, true, true, true, true, true, true, true, true, true, true, false, false] rfl rfl (any_of HT_.out (by kernel_rfl)) (fun _ _ _ h => h) (Or.inr ⟨by rfl, rfl⟩) ?_ ?_
           rotate_left
           ·simp only [Act.put, List.setIfInBounds_toArray, List.set_cons_zero, List.set_cons_succ, i64_w, i32_w]
            rfl
           refine pure_ (i := 19) (N := some 83) (v := undef) (a' := ?_) #[true, true, true, true, true, true, true, true, true, true, true, true, true, true, true, true, true, true, true, true, false] rfl rfl (any_of HT_.out (by kernel_rfl)) (fun _ _ _ h => h) (Or.inr ⟨by rfl, rfl⟩) ?_ ?_
           rotate_left
           ·simp only [Act.put, List.setIfInBounds_toArray, List.set_cons_zero, List.set_cons_succ, i64_w, i32_w]
            rfl
           refine pure_ (i := 20) (N := some 84) (v := ?_) (a' := ?_) #[true, true, true, true, true, true, true, true, true, true, true, true, true, true, true, true, true, true, true, true, true] rfl rfl (any_of HT_.out (by kernel_rfl)) (fun _ _ _ h => h) (Or.inl ⟨by rfl, ?_⟩) ?_ ?_
           rotate_left
           ·intro w'
            go_simp
            with_reducible rfl
           rotate_left
           ·simp only [Act.put, List.setIfInBounds_toArray, List.set_cons_zero, List.set_cons_succ, i64_w, i32_w]
            rfl
           refine done_ (done_of HT_.out (by kernel_rfl)) ?_
           try go_wp2
           go_meet
           case rel => exact ⟨_, (true), (by first | rfl | (simp; done) | (simp [*]; done)), H', ⟨by have := HJ3.out; have := HK2.out; first | omega | exact Nat.le_refl _⟩, ⟨by (with_reducible repeat (first | apply Kd.R_alloc | apply Kd.R_drewN | apply Kd.R_drew)); exact Kd.R_mono HO_8.out (fun _ hk => trivial)⟩, ⟨by (with_reducible repeat (first | apply Kd.R_alloc | apply Kd.R_drewN | apply Kd.R_drew)); exact HO218.out⟩, ⟨by repeat (first | (with_reducible first | exact HB.out | apply below_alloc | apply pw_below_drewN | apply below_drew1) | exact HB.out)⟩⟩
         case rest =>
          clear HC39
          try clear c1
          try clear p2
          try clear q2
          try clear hx2
          try clear qi2
          try clear c5
          try clear q5
          try clear c15
          try clear p21
          try clear q21
          try clear hx21
          try clear qi21
          try clear p22
          try clear q22
          try clear hx22
          try clear c50
          try clear c50b0
          try clear c50b1
          try clear c50b2
          try clear c51
          try clear q52
          try clear c53
          try clear hx219_0
          try clear hx219_1
          try clear hx219_2
          try clear hx219_3
          try clear hx219_4
          try clear hx219_5
          try clear hx219_6
          try clear hx220_0
          try clear hx220_1
          try clear hx220_2
          try clear hx220_3
          try clear hx220_4
          try clear hx220_5
          try clear hx220_6
          try clear p219
          try clear p220
          try clear q219
          try clear q220
          obtain ⟨kq, x84_38, rfl, HA, HJ38, HO_8, HO_11, HB⟩ := hcut
          cases kq with
          | zero => exact absurd HA.out (by simp [laws_FnOldPieces.j2])
          | succ kj38 =>
           have H := HA.out
           clear HA
           simp only [laws_FnOldPieces.j2] at H
           by_cases c62 : x84_38 = true
           ·subst c62
            have H1 : (none) = some r := by rw [if_pos rfl] at H; exact H
            clear H
            have H := H1
            clear H1
            exact absurd H (by simp)
           ·replace c62 := Bool.eq_false_iff.mpr c62
            subst c62
            have H1 : (laws_FnOldPieces.l1 kj38 a1 t216 (t194.length : Int) 0) = some r := by rw [if_neg (show ¬ (false = true) by decide)] at H; exact H
            clear H
            have H := H1
            clear H1
            have H' := Aside0.mk H
            clear H
            go_wp2
            go_loopg [87] kj38 (fun kq v87 w' => ∃ (x87_4 : Int), v87 = .int .i64 x87_4 ∧ Aside0 (laws_FnOldPieces.l1 kq a1 t216 (t194.length : Int) x87_4 = some r) ∧ Aside0 (kq ≤ kj38) ∧ Aside0 (Kd.R k43 43 w' w.heap.size (fun _ => True) v217 t216) ∧ Aside0 (Below w.heap.size w w'))
            case atStart => exact ⟨(0), (by first | rfl | (simp; done) | (simp [*]; done)), H', ⟨Nat.le_refl _⟩, ⟨by (with_reducible repeat (first | apply Kd.R_alloc | apply Kd.R_drewN | apply Kd.R_drew)); exact HO_11.out⟩, ⟨by repeat (first | (with_reducible first | exact HB.out | apply below_alloc | apply pw_below_drewN | apply below_drew1) | exact HB.out)⟩⟩
            case round =>
             clear H'
             try clear c1
             try clear p2
             try clear q2
             try clear hx2
             try clear qi2
             try clear c5
             try clear q5
             try clear c6
             try clear c15
             try clear p21
             try clear q21
             try clear hx21
             try clear qi21
             try clear p22
             try clear q22
             try clear hx22
             try clear c50
             try clear c50b0
             try clear c50b1
             try clear c50b2
             try clear c51
             try clear q52
             try clear c53
             try clear c62
             try clear hx219_0
             try clear hx219_1
             try clear hx219_2
             try clear hx219_3
             try clear hx219_4
             try clear hx219_5
             try clear hx219_6
             try clear hx220_0
             try clear hx220_1
             try clear hx220_2
             try clear hx220_3
             try clear hx220_4
             try clear hx220_5
             try clear hx220_6
             try clear p2
             try clear p21
             try clear p219
             try clear p22
             try clear p220
             try clear q2
             try clear q21
             try clear q219
             try clear q22
             try clear q220
             try clear q5
             try clear q52
             obtain ⟨x87_4, rfl, HA, HK4, HO_11, HB⟩ := hrel
             cases gk with
             | zero => exact absurd HA.out (by simp [laws_FnOldPieces.l1])
             | succ k4 =>
              have HINV := Aside0.mk (old_inv HA.out)
              have H := HA.out
              clear HA
              simp only [laws_FnOldPieces.l1] at H
              by_cases c63 : x87_4 < (t194.length : Int)
              ·rcases HINV.out with ⟨_, i2, i3, hi2, hi3, p2, q2, p3, q3, f2, f1, f3, s2, s3, hnext⟩ | ⟨c64, _⟩
               case inr => exact absurd c63 c64
               clear HINV H
               have c63b0 : decide (x87_4 < (t194.length : Int)) = true := decide_eq_true c63
               clear c63
               have HN := Aside0.mk hnext
               obtain ⟨g, co, eo, hgb, hgl, cells, hg⟩ := Kd.R_form HO_11.out (by omega)
               subst eo
               obtain ⟨ad, e, hx0, hx1, hx2, hx3, hx4, hx5, hx6⟩ := at_T43 (Kd.R_reads' HO_11.out).2.2 i2 p2 q2
               cases e
               obtain ⟨ad', e', hy0, hy1, hy2, hy3, hy4, hy5, hy6⟩ := at_T43 (Kd.R_reads' HO_11.out).2.2 i3 p3 q3
               cases e'
               simp only [add_plain] at hx0 hx1 hx2 hx3 hx4 hx5 hx6 hy0 hy1 hy2 hy3 hy4 hy5 hy6
               obtain ⟨t2, ht2⟩ : ∃ t, rd_T43 t216 i2 = t := ⟨_, rfl⟩
               obtain ⟨t3, ht3⟩ : ∃ t, rd_T43 t216 i3 = t := ⟨_, rfl⟩
               rw [ht2] at hx0 hx1 hx2 hx3 hx4 hx5 hx6 f2 f1 s2
               rw [ht3] at hy0 hy1 hy2 hy3 hy4 hy5 hy6 f3 s3
               have F2 := Aside0.mk f2
               have F1 := Aside0.mk f1
               have F3 := Aside0.mk f3
               have S2 := Aside0.mk s2
               have S3 := Aside0.mk s3
               have hw2 := (i64_w _).trans hi2
               have hw3 := (i64_w _).trans hi3
               have hu2 : IntKind.i64.wrap (2 + IntKind.i64.wrap (2 * x87_4)) = i2 := by rw [i64_w, i64_w]; exact hi2
               have hu3 : IntKind.i64.wrap (3 + IntKind.i64.wrap (2 * x87_4)) = i3 := by rw [i64_w, i64_w]; exact hi3
               have hn1 : g ≠ wr.heap.size := by omega
               have hn2 : g ≠ wr.heap.size + 1 := by omega
               have HG := Aside0.mk hg
               clear hg
               clear hnext ht2 ht3 f2 f1 f3 s2 s3
               go_upto_region 19 with fail
               go_cut [13, 14] (fun v13 v14 wc => ∃ (g1 g2 : Nat), v13 = .pointer (some ⟨g1, 0, none⟩) ∧ v14 = .pointer (some ⟨g2, 0, none⟩) ∧ Aside0 (wc.heap[g1]? = some (.cells [.bool t2.f0, .bool t2.f1, .bool t2.f2, .bool t2.f3, .string t2.f4, .int .u16 t2.f5, .int .i64 t2.f6].toArray 43)) ∧ Aside0 (wc.heap[g2]? = some (.cells [.bool t3.f0, .bool t3.f1, .bool t3.f2, .bool t3.f3, .string t3.f4, .int .u16 t3.f5, .int .i64 t3.f6].toArray 43)) ∧ Aside0 (Kd.R k43 43 wc w.heap.size (fun _ => True) (.slice (some ⟨g, 0, none⟩) t216.length co) t216) ∧ Aside0 (Below w.heap.size w wc))
               case first =>
                go_region
                ·go_wp2_with fail
                 go_meet
                 have e1 : (wr.alloc (.cells #[.bool t2.f0, .bool t2.f1, .bool t2.f2, .bool t2.f3, .string t2.f4, .int .u16 t2.f5, .int .i64 t2.f6] 43)).heap.size = wr.heap.size + 1 := by simp
                 exact ⟨wr.heap.size, wr.heap.size + 1, rfl, rfl, ⟨blk_alloc (blk_new wr (.cells #[.bool t2.f0, .bool t2.f1, .bool t2.f2, .bool t2.f3, .string t2.f4, .int .u16 t2.f5, .int .i64 t2.f6] 43)) _⟩, ⟨by have h := blk_new (wr.alloc (.cells #[.bool t2.f0, .bool t2.f1, .bool t2.f2, .bool t2.f3, .string t2.f4, .int .u16 t2.f5, .int .i64 t2.f6] 43)) (.cells #[.bool t3.f0, .bool t3.f1, .bool t3.f2, .bool t3.f3, .string t3.f4, .int .u16 t3.f5, .int .i64 t3.f6] 43); rw [e1] at h; exact h⟩, ⟨Kd.R_drew (Kd.R_alloc (Kd.R_alloc HO_11.out _) _)⟩, ⟨below_drew1 (below_alloc (below_alloc HB.out _) _)⟩⟩
                ·go_wp2_with fail
                 go_meet
                 have e1 : (wr.alloc (.cells #[.bool t3.f0, .bool t3.f1, .bool t3.f2, .bool t3.f3, .string t3.f4, .int .u16 t3.f5, .int .i64 t3.f6] 43)).heap.size = wr.heap.size + 1 := by simp
                 exact ⟨wr.heap.size + 1, wr.heap.size, rfl, rfl, ⟨by have h := blk_new (wr.alloc (.cells #[.bool t3.f0, .bool t3.f1, .bool t3.f2, .bool t3.f3, .string t3.f4, .int .u16 t3.f5, .int .i64 t3.f6] 43)) (.cells #[.bool t2.f0, .bool t2.f1, .bool t2.f2, .bool t2.f3, .string t2.f4, .int .u16 t2.f5, .int .i64 t2.f6] 43); rw [e1] at h; exact h⟩, ⟨blk_alloc (blk_new wr (.cells #[.bool t3.f0, .bool t3.f1, .bool t3.f2, .bool t3.f3, .string t3.f4, .int .u16 t3.f5, .int .i64 t3.f6] 43)) _⟩, ⟨Kd.R_drew (Kd.R_alloc (Kd.R_alloc HO_11.out _) _)⟩, ⟨below_drew1 (below_alloc (below_alloc HB.out _) _)⟩⟩
               case rest =>
                obtain ⟨g1, g2, rfl, rfl, B1, B2, HO2, HB2⟩ := hcut
                have d2 : wc.cell? ⟨g1, 2, none⟩ = some (.bool false) := by rw [← F2.out]; exact cellB B1.out 2
                have d1 : wc.cell? ⟨g1, 1, none⟩ = some (.bool (x87_4 == 0)) := by rw [← F1.out]; exact cellB B1.out 1
                have d3 : wc.cell? ⟨g2, 3, none⟩ = some (.bool false) := by rw [← F3.out]; exact cellB B2.out 3
                have d6 : wc.cell? ⟨g1, 6, none⟩ = some (.int .i64 0) := by rw [← S2.out]; exact cellB B1.out 6
                have d7 : wc.cell? ⟨g2, 6, none⟩ = some (.int .i64 0) := by rw [← S3.out]; exact cellB B2.out 6
                clear hx0 hx1 hx2 hx3 hx4 hx5 hx6 hy0 hy1 hy2 hy3 hy4 hy5 hy6 hi2 hi3 hw2 hw3 hu2 hu3 p2 q2 p3 q3 hn1 hn2 HG HO_11 HB
                cases hxb : (x87_4 == (0 : Int))
                all_goals rw [hxb] at d1
                all_goals go_wp2_with fail
                all_goals go_roundg k4
                all_goals first
                 | (case measure => have := HJ38.out; have := HK4.out; omega)
                 | (case rel => exact ⟨_, rfl, HN, ⟨by have := HK4.out; omega⟩, HO2, HB2⟩)
                 | trace_state
              ·rw [if_neg c63] at H
               have c63b0 : decide (x87_4 < (t194.length : Int)) = false := decide_eq_false c63
               clear c63
               obtain ⟨ji99, hji99⟩ : ∃ j_ : Int, (wrap64 ((t216.length : Int) - 1)) = j_ := ⟨_, rfl⟩
               replace H : (if 0 ≤ (ji99) then (if (ji99) < (t216.length : Int) then (if (rd_T43 t216 (ji99)).f3 = true then ((laws_whole.f k4 11 1 a1).bind fun t228 => (if ((rd_T43 t216 (ji99)).f4).toList = t228.toList then (some (((rd_T43 t216 (ji99)).f6) == 0)) else (none))) else (none)) else (none)) else (none)) = some r := by first | (rw [hji99] at H; exact H) | (simp only [hji99] at H ⊢; exact H)
               have hji99w : (IntKind.i64.wrap ((t216.length : Int) - 1)) = ji99 := (i64_w _).trans hji99
               by_cases c100 : 0 ≤ (ji99)
               ·rw [if_pos c100] at H
                have c100b0 : decide (0 ≤ (ji99)) = true := decide_eq_true c100
                clear c100
                by_cases c101 : (ji99) < (t216.length : Int)
                ·rw [if_pos c101] at H
                 have c101b0 : decide ((ji99) < (t216.length : Int)) = true := decide_eq_true c101
                 clear c101
                 obtain ⟨bq102, hbq102⟩ : ∃ b_ : Bool, b_ = ((rd_T43 t216 (ji99)).f3) := ⟨_, rfl⟩
                 replace H : (if bq102 = true then ((laws_whole.f k4 11 1 a1).bind fun t228 => (if ((rd_T43 t216 (ji99)).f4).toList = t228.toList then (some (((rd_T43 t216 (ji99)).f6) == 0)) else (none))) else (none)) = some r := by rw [← hbq102] at H; exact H
                 have Nbq102 := Aside0.mk hbq102
                 clear hbq102
                 by_cases c103 : bq102 = true
                 ·subst c103
                  have H1 : ((laws_whole.f k4 11 1 a1).bind fun t228 => (if ((rd_T43 t216 (ji99)).f4).toList = t228.toList then (some (((rd_T43 t216 (ji99)).f6) == 0)) else (none))) = some r := by rw [if_pos rfl] at H; exact H
                  clear H
                  have H := H1
                  clear H1
                  replace H := Option.bind_eq_some_iff.mp H
                  obtain ⟨t228, A1040, H⟩ := H
                  replace H : (if ((rd_T43 t216 (ji99)).f4).toList = t228.toList then (some (((rd_T43 t216 (ji99)).f6) == 0)) else (none)) = some r := H
                  have A104 := Aside0.mk A1040
                  clear A1040
                  by_cases c105 : ((rd_T43 t216 (ji99)).f4).toList = t228.toList
                  ·rw [if_pos c105] at H
                   have c105b0 : (((rd_T43 t216 (ji99)).f4).toList == t228.toList) = true := beq_iff_eq.mpr c105
                   have c105b1 : (((rd_T43 t216 (ji99)).f4).toList != t228.toList) = false := bne_eq_false_iff_eq.mpr c105
                   clear c105
                   obtain rfl := Option.some.inj H
                   obtain ⟨Ao106, co106, eo106⟩ := Kd.R_slice HO_11.out
                   subst eo106
                   have p226 : 0 ≤ ((ji99) : Int) := of_decide_eq_true (by first | (with_reducible assumption) | assumption)
                   have q226 : (ji99) < (t216.length : Int) := of_decide_eq_true (by first | (with_reducible assumption) | assumption)
                   obtain ⟨ad226, e226, hx226_0, hx226_1, hx226_2, hx226_3, hx226_4, hx226_5, hx226_6⟩ := at_T43 (Kd.R_reads' HO_11.out).2.2 (ji99) p226 q226
                   (try rw [← Nbq102.out] at hx226_0)
                   (try rw [← Nbq102.out] at hx226_1)
                   (try rw [← Nbq102.out] at hx226_2)
                   (try rw [← Nbq102.out] at hx226_3)
                   cases e226
                   replace p226 := eq_true p226
                   replace q226 := eq_true q226
                   try go_wp2_with (first | ((with_reducible refine gate_dst (N := 15) rfl ?_); (try (refine gate_guard (by rfl) ?_; dsimp only)); refine box_event ?hg (N := 15) ?hd (cs := #[.bool false, .bool false, .bool false, .bool false, .string (⟨#[]⟩ : ByteArray), .int .u16 0, .int .i64 0]) (t := 43) ?hr ?_; (case hd => rfl); (case hg => rfl); (case hr => first | (go_simp; done) | (go_simp; rfl)); intro gb227 hg w107 hbox hb; have n0_ := Aside0.mk (Kd.R_below (Kd.R_elderB (by (with_reducible repeat (first | apply Kd.R_alloc | apply Kd.R_drewN | apply Kd.R_drew)); exact HO_11.out) gb227 (Nat.le_of_eq hg.symm)) hb); have n1_ := Aside0.mk (below_step (by repeat (first | (with_reducible first | exact HB.out | apply below_alloc | apply pw_below_drewN | apply below_drew1) | exact HB.out)) hb); have n2_ := Aside0.mk (hbox); have n3_ := Aside0.mk ((by rw [hg]; exact (below_size (by repeat (first | (with_reducible first | exact HB.out | apply below_alloc | apply pw_below_drewN | apply below_drew1) | exact HB.out))) : w.heap.size ≤ gb227)); have n4_ := Aside0.mk ((by rw [hg]; exact (below_size (by repeat (first | (with_reducible first | exact HB.out | apply below_alloc | apply pw_below_drewN | apply below_drew1) | exact HB.out))) : w.heap.size ≤ gb227)); clear HO_11; clear HB; have HO_11 := n0_; have HB := n1_; have BK227 := n2_; have GW227 := n3_; have GE227 := n4_; clear n0_ n1_ n2_ n3_ n4_; clear hb hbox hg; have hcz108_0 : w107.cell? ⟨gb227, 0, none⟩ = some (.bool false) := (blk_cell BK227.out 0).trans rfl; have hcz108_1 : w107.cell? ⟨gb227, 1, none⟩ = some (.bool false) := (blk_cell BK227.out 1).trans rfl; have hcz108_2 : w107.cell? ⟨gb227, 2, none⟩ = some (.bool false) := (blk_cell BK227.out 2).trans rfl; have hcz108_3 : w107.cell? ⟨gb227, 3, none⟩ = some (.bool false) := (blk_cell BK227.out 3).trans rfl; have hcz108_4 : w107.cell? ⟨gb227, 4, none⟩ = some (.string (⟨#[]⟩ : ByteArray)) := (blk_cell BK227.out 4).trans rfl; have hcz108_5 : w107.cell? ⟨gb227, 5, none⟩ = some (.int .u16 0) := (blk_cell BK227.out 5).trans rfl; have hcz108_6 : w107.cell? ⟨gb227, 6, none⟩ = some (.int .i64 0) := (blk_cell BK227.out 6).trans rfl; have hfz108_0 := blk_frozen BK227.out 0; have hfz108_1 := blk_frozen BK227.out 1; have hfz108_2 := blk_frozen BK227.out 2; have hfz108_3 := blk_frozen BK227.out 3; have hfz108_4 := blk_frozen BK227.out 4; have hfz108_5 := blk_frozen BK227.out 5; have hfz108_6 := blk_frozen BK227.out 6))
                   have n0_ : Aside0 (Kd.R k43 43 (((((((w107.setCell ⟨gb227, 0, none⟩ (.bool ((rd_T43 t216 (ji99)).f0))).setCell ⟨gb227, 1, none⟩ (.bool ((rd_T43 t216 (ji99)).f1))).setCell ⟨gb227, 2, none⟩ (.bool ((rd_T43 t216 (ji99)).f2))).setCell ⟨gb227, 3, none⟩ (.bool true)).setCell ⟨gb227, 4, none⟩ (.string ((rd_T43 t216 (ji99)).f4))).setCell ⟨gb227, 5, none⟩ (.int .u16 ((rd_T43 t216 (ji99)).f5))).setCell ⟨gb227, 6, none⟩ (.int .i64 ((rd_T43 t216 (ji99)).f6))) w.heap.size (fun k_ => k_ ≠ gb227) (.slice (some ad226) t216.length co106) t216) := ⟨by (with_reducible repeat (first | apply Kd.R_alloc | apply Kd.R_drewN | apply Kd.R_drew)); exact Kd.R_mono (Kd.R_far (p := ⟨gb227, 6, none⟩) (Kd.R_far (p := ⟨gb227, 5, none⟩) (Kd.R_far (p := ⟨gb227, 4, none⟩) (Kd.R_far (p := ⟨gb227, 3, none⟩) (Kd.R_far (p := ⟨gb227, 2, none⟩) (Kd.R_far (p := ⟨gb227, 1, none⟩) (Kd.R_far (p := ⟨gb227, 0, none⟩) (Kd.R_mono HO_11.out (fun k_ hk => (⟨hk, hk.2⟩ : _ ∧ k_ ≠ gb227))) (fun _ hk => hk.2) (.bool ((rd_T43 t216 (ji99)).f0))) (fun _ hk => hk.2) (.bool ((rd_T43 t216 (ji99)).f1))) (fun _ hk => hk.2) (.bool ((rd_T43 t216 (ji99)).f2))) (fun _ hk => hk.2) (.bool true)) (fun _ hk => hk.2) (.string ((rd_T43 t216 (ji99)).f4))) (fun _ hk => hk.2) (.int .u16 ((rd_T43 t216 (ji99)).f5))) (fun _ hk => hk.2) (.int .i64 ((rd_T43 t216 (ji99)).f6))) (fun _ hk => hk.1.2)⟩
                   have n1_ : Aside0 ((((((((w107.setCell ⟨gb227, 0, none⟩ (.bool ((rd_T43 t216 (ji99)).f0))).setCell ⟨gb227, 1, none⟩ (.bool ((rd_T43 t216 (ji99)).f1))).setCell ⟨gb227, 2, none⟩ (.bool ((rd_T43 t216 (ji99)).f2))).setCell ⟨gb227, 3, none⟩ (.bool true)).setCell ⟨gb227, 4, none⟩ (.string ((rd_T43 t216 (ji99)).f4))).setCell ⟨gb227, 5, none⟩ (.int .u16 ((rd_T43 t216 (ji99)).f5))).setCell ⟨gb227, 6, none⟩ (.int .i64 ((rd_T43 t216 (ji99)).f6))).heap[gb227]? = some (.cells #[.bool ((rd_T43 t216 (ji99)).f0), .bool ((rd_T43 t216 (ji99)).f1), .bool ((rd_T43 t216 (ji99)).f2), .bool true, .string ((rd_T43 t216 (ji99)).f4), .int .u16 ((rd_T43 t216 (ji99)).f5), .int .i64 ((rd_T43 t216 (ji99)).f6)] 43 (0, 0))) := ⟨by (with_reducible repeat (first | refine blk_drewN ?_ _ | refine blk_drew ?_ | refine blk_alloc ?_ _)); refine blk_put (cs := #[.bool ((rd_T43 t216 (ji99)).f0), .bool ((rd_T43 t216 (ji99)).f1), .bool ((rd_T43 t216 (ji99)).f2), .bool true, .string ((rd_T43 t216 (ji99)).f4), .int .u16 ((rd_T43 t216 (ji99)).f5), .int .i64 0]) ?_ 6 _ rfl; (with_reducible repeat (first | refine blk_drewN ?_ _ | refine blk_drew ?_ | refine blk_alloc ?_ _)); refine blk_put (cs := #[.bool ((rd_T43 t216 (ji99)).f0), .bool ((rd_T43 t216 (ji99)).f1), .bool ((rd_T43 t216 (ji99)).f2), .bool true, .string ((rd_T43 t216 (ji99)).f4), .int .u16 0, .int .i64 0]) ?_ 5 _ rfl; (with_reducible repeat (first | refine blk_drewN ?_ _ | refine blk_drew ?_ | refine blk_alloc ?_ _)); refine blk_put (cs := #[.bool ((rd_T43 t216 (ji99)).f0), .bool ((rd_T43 t216 (ji99)).f1), .bool ((rd_T43 t216 (ji99)).f2), .bool true, .string (⟨#[]⟩ : ByteArray), .int .u16 0, .int .i64 0]) ?_ 4 _ rfl; (with_reducible repeat (first | refine blk_drewN ?_ _ | refine blk_drew ?_ | refine blk_alloc ?_ _)); refine blk_put (cs := #[.bool ((rd_T43 t216 (ji99)).f0), .bool ((rd_T43 t216 (ji99)).f1), .bool ((rd_T43 t216 (ji99)).f2), .bool false, .string (⟨#[]⟩ : ByteArray), .int .u16 0, .int .i64 0]) ?_ 3 _ rfl; (with_reducible repeat (first | refine blk_drewN ?_ _ | refine blk_drew ?_ | refine blk_alloc ?_ _)); refine blk_put (cs := #[.bool ((rd_T43 t216 (ji99)).f0), .bool ((rd_T43 t216 (ji99)).f1), .bool false, .bool false, .string (⟨#[]⟩ : ByteArray), .int .u16 0, .int .i64 0]) ?_ 2 _ rfl; (with_reducible repeat (first | refine blk_drewN ?_ _ | refine blk_drew ?_ | refine blk_alloc ?_ _)); refine blk_put (cs := #[.bool ((rd_T43 t216 (ji99)).f0), .bool false, .bool false, .bool false, .string (⟨#[]⟩ : ByteArray), .int .u16 0, .int .i64 0]) ?_ 1 _ rfl; (with_reducible repeat (first | refine blk_drewN ?_ _ | refine blk_drew ?_ | refine blk_alloc ?_ _)); refine blk_put (cs := #[.bool false, .bool false, .bool false, .bool false, .string (⟨#[]⟩ : ByteArray), .int .u16 0, .int .i64 0]) ?_ 0 _ rfl; (with_reducible repeat (first | refine blk_drewN ?_ _ | refine blk_drew ?_ | refine blk_alloc ?_ _)); exact BK227.out⟩
                   have n2_ : Aside0 (Below w.heap.size w (((((((w107.setCell ⟨gb227, 0, none⟩ (.bool ((rd_T43 t216 (ji99)).f0))).setCell ⟨gb227, 1, none⟩ (.bool ((rd_T43 t216 (ji99)).f1))).setCell ⟨gb227, 2, none⟩ (.bool ((rd_T43 t216 (ji99)).f2))).setCell ⟨gb227, 3, none⟩ (.bool true)).setCell ⟨gb227, 4, none⟩ (.string ((rd_T43 t216 (ji99)).f4))).setCell ⟨gb227, 5, none⟩ (.int .u16 ((rd_T43 t216 (ji99)).f5))).setCell ⟨gb227, 6, none⟩ (.int .i64 ((rd_T43 t216 (ji99)).f6)))) := ⟨by repeat (first | (with_reducible first | exact HB.out | apply below_alloc | apply pw_below_drewN | apply below_drew1 | refine below_set ?_ GE227.out) | exact HB.out)⟩
                   (try clear HO_11)
                   (try clear BK227)
                   (try clear HB)
                   generalize (((((((w107.setCell ⟨gb227, 0, none⟩ (.bool ((rd_T43 t216 (ji99)).f0))).setCell ⟨gb227, 1, none⟩ (.bool ((rd_T43 t216 (ji99)).f1))).setCell ⟨gb227, 2, none⟩ (.bool ((rd_T43 t216 (ji99)).f2))).setCell ⟨gb227, 3, none⟩ (.bool true)).setCell ⟨gb227, 4, none⟩ (.string ((rd_T43 t216 (ji99)).f4))).setCell ⟨gb227, 5, none⟩ (.int .u16 ((rd_T43 t216 (ji99)).f5))).setCell ⟨gb227, 6, none⟩ (.int .i64 ((rd_T43 t216 (ji99)).f6))) = w109 at n0_ n1_ n2_ ⊢
                   have HO_11 := n0_
                   have BK227 := n1_
                   have HB := n2_
                   clear n0_ n1_ n2_
                   have n0_ := Aside0.mk (Kd.R_drew HO_11.out)
                   have n1_ := Aside0.mk (blk_drew BK227.out)
                   have n2_ := Aside0.mk (below_drew1 HB.out)
                   clear HO_11
                   clear BK227
                   clear HB
                   have HO_11 := n0_
                   have BK227 := n1_
                   have HB := n2_
                   clear n0_ n1_ n2_
                   refine start_ (n := 15) (S := fun w' => w'.cell? ⟨gb227, 0, none⟩ = some (.bool ((rd_T43 t216 (ji99)).f0)) ∧ w'.cell? ⟨gb227, 1, none⟩ = some (.bool ((rd_T43 t216 (ji99)).f1)) ∧ w'.cell? ⟨gb227, 2, none⟩ = some (.bool ((rd_T43 t216 (ji99)).f2)) ∧ w'.cell? ⟨gb227, 3, none⟩ = some (.bool true) ∧ w'.cell? ⟨gb227, 4, none⟩ = some (.string ((rd_T43 t216 (ji99)).f4)) ∧ w'.cell? ⟨gb227, 5, none⟩ = some (.int .u16 ((rd_T43 t216 (ji99)).f5)) ∧ w'.cell? ⟨gb227, 6, none⟩ = some (.int .i64 ((rd_T43 t216 (ji99)).f6))) (ds := []) #[false, false, false, false, false, false, false, false, false, false, false, false, false, false, false] (by kernel_rfl) rfl rfl ⟨(blk_cell BK227.out 0).trans rfl, (blk_cell BK227.out 1).trans rfl, (blk_cell BK227.out 2).trans rfl, (blk_cell BK227.out 3).trans rfl, (blk_cell BK227.out 4).trans rfl, (blk_cell BK227.out 5).trans rfl, (blk_cell BK227.out 6).trans rfl⟩ (fun hHeld => ?_); refine with_tabW laws_FnOldPieces.tab24 laws_FnOldPieces.bits24 (fun HT_ HW_ => ?_)
                   generalize w109.drew = w110 at HO_11 BK227 HB hHeld ⊢
                   refine pure_ (i := 0) (N := some 132) (v := ?_) (a' := ?_) #[true, false, false, false, false, false, false, false, false, false, false, false, false, false, false] rfl rfl (any_of HT_.out (by kernel_rfl)) (fun _ _ _ h => h) (Or.inl ⟨by rfl, ?_⟩) ?_ ?_
                   rotate_left
                   ·intro w'
                    go_simp
                    with_reducible rfl
                   rotate_left
                   ·simp only [Act.put, List.setIfInBounds_toArray, List.set_cons_zero, List.set_cons_succ, i64_w, i32_w]
                    rfl
                   refine take_ (i := 1) (N := some 133) (v := ?_) (a' := ?_) #[true, true, false, false, false, false, false, false, false, false, false, false, false, false, false] rfl rfl (take_ofW HT_.out HW_.out (by kernel_rfl)) (fun _ _ _ h => h) (Or.inl ⟨by rfl, ?_⟩) hHeld ?_ ?_
                   rotate_left
                   ·rintro w' ⟨s0, s1, s2, s3, s4, s5, s6⟩
                    go_simp
                    with_reducible rfl
                   rotate_left
                   ·simp only [Act.put, List.setIfInBounds_toArray, List.set_cons_zero, List.set_cons_succ, i64_w, i32_w]
                    rfl
                   refine pure_ (i := 2) (N := some 134) (v := ?_) (a' := ?_) #[true, true, true, false, false, false, false, false, false, false, false, false, false, false, false] rfl rfl (any_of HT_.out (by kernel_rfl)) (fun _ _ _ h => h) (Or.inl ⟨by rfl, ?_⟩) ?_ ?_
                   rotate_left
                   ·intro w'
                    go_simp
                    with_reducible rfl
                   rotate_left
                   ·simp only [Act.put, List.setIfInBounds_toArray, List.set_cons_zero, List.set_cons_succ, i64_w, i32_w]
                    rfl
                   refine pure_ (i := 3) (N := some 135) (v := ?_) (a' := ?_) #[true, true, true, true, false, false, false, false, false, false, false, false, false, false, false] rfl rfl (any_of HT_.out (by kernel_rfl)) (fun _ _ _ h => h) (Or.inl ⟨by rfl, ?_⟩) ?_ ?_
                   rotate_left
                   ·intro w'
                    go_simp
                    with_reducible rfl
                   rotate_left
                   ·simp only [Act.put, List.setIfInBounds_toArray, List.set_cons_zero, List.set_cons_succ, i64_w, i32_w]
                    rfl
                   refine pure_ (i := 5) (N := some 137) (v := ?_) (a' := ?_) #[true, true, true, true, false, true, false, false, false, false, false, false, false, false, false] rfl rfl (any_of HT_.out (by kernel_rfl)) (fun _ _ _ h => h) (Or.inl ⟨by rfl, ?_⟩) ?_ ?_
                   rotate_left
                   ·intro w'
                    go_simp
                    with_reducible rfl
                   rotate_left
                   ·simp only [Act.put, List.setIfInBounds_toArray, List.set_cons_zero, List.set_cons_succ, i64_w, i32_w]
                    rfl
                   refine take_ (i := 4) (N := some 136) (v := ?_) (a' := ?_) #[true, true, true, true, true, true, false, false, false, false, false, false, false, false, false] rfl rfl (take_ofW HT_.out HW_.out (by kernel_rfl)) (fun _ _ _ h => h) (Or.inl ⟨by rfl, ?_⟩) hHeld ?_ ?_
                   rotate_left
                   ·rintro w' ⟨s0, s1, s2, s3, s4, s5, s6⟩
                    go_simp
                    with_reducible rfl
                   rotate_left
                   ·simp only [Act.put, List.setIfInBounds_toArray, List.set_cons_zero, List.set_cons_succ, i64_w, i32_w]
                    rfl
                   refine one_ (i := 6) (N := some 138) #[true, true, true, true, true, true, true, false, false, false, false, false, false, false, false] rfl rfl (one_of HT_.out (by kernel_rfl)) (by decide) (fun K hK => ?_)
                   refine goes_ Tryd.func15 (by kernel_rfl) rfl #[.int .u8 11, .int .i64 1, .string a1] (by rfl) rfl rfl (by (try simp only [List.map_toArray, List.map_cons, List.map_nil]); first | done | rfl | (simp only [List.length_drop, List.length_take]; rfl)) ?_
                   with_reducible refine (laws_whole.calls k4 11 1 a1 t228 _ A104.out).mono ?_
                   rintro e w111 ⟨rfl, hb⟩
                   refine ⟨_, rfl, ?_⟩
                   have n0_ := Aside0.mk (Kd.R_below (by (with_reducible repeat (first | apply Kd.R_alloc | apply Kd.R_drewN | apply Kd.R_drew)); exact HO_11.out) hb)
                   have n1_ := Aside0.mk (blk_below (g := gb227) (o := .cells #[.bool ((rd_T43 t216 (ji99)).f0), .bool ((rd_T43 t216 (ji99)).f1), .bool ((rd_T43 t216 (ji99)).f2), .bool true, .string ((rd_T43 t216 (ji99)).f4), .int .u16 ((rd_T43 t216 (ji99)).f5), .int .i64 ((rd_T43 t216 (ji99)).f6)] 43 (0, 0)) (by (with_reducible repeat (first | refine blk_drewN ?_ _ | refine blk_drew ?_ | refine blk_alloc ?_ _)); exact BK227.out) hb)
                   have n2_ := Aside0.mk (below_step (by repeat (first | (with_reducible first | exact HB.out | apply below_alloc | apply pw_below_drewN | apply below_drew1 | refine below_set ?_ GE227.out) | exact HB.out)) hb)
                   clear HO_11
                   clear BK227
                   clear HB
                   have HO_11 := n0_
                   have BK227 := n1_
                   have HB := n2_
                   clear n0_ n1_ n2_
                   (try clear hb)
                   (try clear hb2)
                   (try clear hk)
                   (try clear hi)
                   refine hK.out _ _ ⟨(blk_cell BK227.out 0).trans rfl, (blk_cell BK227.out 1).trans rfl, (blk_cell BK227.out 2).trans rfl, (blk_cell BK227.out 3).trans rfl, (blk_cell BK227.out 4).trans rfl, (blk_cell BK227.out 5).trans rfl, (blk_cell BK227.out 6).trans rfl⟩ (fun hHeld => ?_)
                   clear hK K
                   refine norm_ (a' := ?_) ?_ ?_
                   rotate_left
                   ·show Act.put _ (some 138) _ = _
                    simp only [Act.put, List.setIfInBounds_toArray, List.set_cons_zero, List.set_cons_succ, i64_w, i32_w]
                    rfl
                   refine pure_ (i := 7) (N := some 139) (v := ?_) (a' := ?_) #[true, true, true, true, true, true, true, true, false, false, false, false, false, false, false] rfl rfl (any_of HT_.out (by kernel_rfl)) (fun _ _ _ h => h) (Or.inl ⟨by rfl, ?_⟩) ?_ ?_
                   rotate_left
                   ·intro w'
                    go_simp
                    with_reducible rfl
                   rotate_left
                   ·simp only [Act.put, List.setIfInBounds_toArray, List.set_cons_zero, List.set_cons_succ, i64_w, i32_w]
                    rfl
                   refine pure_ (i := 8) (N := some 140) (v := ?_) (a' := ?_) #[true, true, true, true, true, true, true, true, true, false, false, false, false, false, false] rfl rfl (any_of HT_.out (by kernel_rfl)) (fun _ _ _ h => h) (Or.inl ⟨by rfl, ?_⟩) ?_ ?_
                   rotate_left
                   ·intro w'
                    go_simp
                    with_reducible rfl
                   rotate_left
                   ·simp only [Act.put, List.setIfInBounds_toArray, List.set_cons_zero, List.set_cons_succ, i64_w, i32_w]
                    rfl
                   refine pure_ (i := 9) (N := some 141) (v := ?_) (a' := ?_) #[true, true, true, true, true, true, true, true, true, true, false, false, false, false, false] rfl rfl (any_of HT_.out (by kernel_rfl)) (fun _ _ _ h => h) (Or.inl ⟨by rfl, ?_⟩) ?_ ?_
                   rotate_left
                   ·intro w'
                    go_simp
                    with_reducible rfl
                   rotate_left
                   ·simp only [Act.put, List.setIfInBounds_toArray, List.set_cons_zero, List.set_cons_succ, i64_w, i32_w]
                    rfl
                   refine pure_ (i := 10) (N := some 142) (v := ?_) (a' := ?_) #[true, true, true, true, true, true, true, true, true, true, true, false, false, false, false] rfl rfl (any_of HT_.out (by kernel_rfl)) (fun _ _ _ h => h) (Or.inl ⟨by rfl, ?_⟩) ?_ ?_
                   rotate_left
                   ·intro w'
                    go_simp
                    with_reducible rfl
                   rotate_left
                   ·simp only [Act.put, List.setIfInBounds_toArray, List.set_cons_zero, List.set_cons_succ, i64_w, i32_w]
                    rfl
                   refine take_ (i := 11) (N := some 143) (v := ?_) (a' := ?_) #[true, true, true, true, true, true, true, true, true, true, true, true, false, false, false] rfl rfl (take_ofW HT_.out HW_.out (by kernel_rfl)) (fun _ _ _ h => h) (Or.inl ⟨by rfl, ?_⟩) hHeld ?_ ?_
                   rotate_left
                   ·rintro w' ⟨s0, s1, s2, s3, s4, s5, s6⟩
                    go_simp
                    with_reducible rfl
                   rotate_left
                   ·simp only [Act.put, List.setIfInBounds_toArray, List.set_cons_zero, List.set_cons_succ, i64_w, i32_w]
                    rfl
                   refine pure_ (i := 12) (N := some 144) (v := ?_) (a' := ?_) #[true, true, true, true, true, true, true, true, true, true, true, true, true, false, false] rfl rfl (any_of HT_.out (by kernel_rfl)) (fun _ _ _ h => h) (Or.inl ⟨by rfl, ?_⟩) ?_ ?_
                   rotate_left
                   ·intro w'
                    go_simp
                    with_reducible rfl
                   rotate_left
                   ·simp only [Act.put, List.setIfInBounds_toArray, List.set_cons_zero, List.set_cons_succ, i64_w, i32_w]
                    rfl
                   refine pure_ (i := 13) (N := some 145) (v := ?_) (a' := ?_) #[true, true, true, true, true, true, true, true, true, true, true, true, true, true, false] rfl rfl (any_of HT_.out (by kernel_rfl)) (fun _ _ _ h => h) (Or.inl ⟨by rfl, ?_⟩) ?_ ?_
                   rotate_left
                   ·intro w'
                    go_simp
                    with_reducible rfl
                   rotate_left
                   ·simp only [Act.put, List.setIfInBounds_toArray, List.set_cons_zero, List.set_cons_succ, i64_w, i32_w]
                    rfl
                   refine pure_ (i := 14) (N := some 6) (v := ?_) (a' := ?_) #[true, true, true, true, true, true, true, true, true, true, true, true, true, true, true] rfl rfl (any_of HT_.out (by kernel_rfl)) (fun _ _ _ h => h) (Or.inl ⟨by rfl, ?_⟩) ?_ ?_
                   rotate_left
                   ·intro w'
                    go_simp
                    with_reducible rfl
                   rotate_left
                   ·simp only [Act.put, List.setIfInBounds_toArray, List.set_cons_zero, List.set_cons_succ, i64_w, i32_w]
                    rfl
                   refine done_ (done_of HT_.out (by kernel_rfl)) ?_
                   try go_wp2
                   go_ret
                   exact ⟨by first | rfl | (simp [errW_none, errW_some] <;> rfl) | (simp only [← hji99]; first | rfl | (simp [errW_none, errW_some] <;> rfl)) | (simp [*, errW_none, errW_some] <;> rfl), by repeat (first | (with_reducible first | exact HB.out | apply below_alloc | apply pw_below_drewN | apply below_drew1 | refine below_set ?_ GE227.out) | exact HB.out)⟩
                  ·rw [if_neg c105] at H
                   have c105b0 : (((rd_T43 t216 (ji99)).f4).toList == t228.toList) = false := beq_eq_false_iff_ne.mpr c105
                   have c105b1 : (((rd_T43 t216 (ji99)).f4).toList != t228.toList) = true := bne_iff_ne.mpr c105
                   exact absurd H (by simp)
                 ·replace c103 := Bool.eq_false_iff.mpr c103
                  subst c103
                  have H1 : (none) = some r := by rw [if_neg (show ¬ (false = true) by decide)] at H; exact H
                  clear H
                  have H := H1
                  clear H1
                  exact absurd H (by simp)
                ·rw [if_neg c101] at H
                 exact absurd H (by simp)
               ·rw [if_neg c100] at H
                exact absurd H (by simp)
        ·rw [if_neg c37] at H
         exact absurd H (by simp)
    ·replace c8 := Bool.eq_false_iff.mpr c8
     subst c8
     have H1 : (some true) = some r := by rw [if_neg (show ¬ (false = true) by decide)] at H; exact H
     clear H
     have H := H1
     clear H1
     obtain rfl := Option.some.inj H
     go_wp2_with (first | ((with_reducible refine gate_dst (N := 26) rfl ?_); (try (refine gate_guard (by rfl) ?_; dsimp only)); refine Kd.R_lit Kd.string _ 9 ?hg (N := 26) ?hd (xs := ([a0, a1] : List ByteArray)) (inner := [.string a0, .string a1]) (ok := fun _ => True) (okp := fun _ => True) ?hr ?hp (fun _ hk => hk) trivial (Below.refl _ _) (Nat.le_refl _) (by simp) ?_; (case hd => rfl); (case hg => rfl); (case hr => first | (go_simp; done) | (go_simp; rfl)); (case hp => exact (Reps.one (show Kd.M Kd.string _ _ _ a0 [.string a0] from rfl) (Reps.one (show Kd.M Kd.string _ _ _ a1 [.string a1] from rfl) (Reps.none _ _)))); intro v183 w112 ho113 hb hg_ hnew_; clear hg_ hnew_; (first | rw [← Ny182.out] at ho113 | (simp only [Int.reduceToNat] at ho113; rw [← Ny182.out] at ho113)); have n0_ := Aside0.mk (Kd.R_lower ho113 (below_size (by repeat (first | (with_reducible first | exact HB.out | apply below_alloc | apply pw_below_drewN | apply below_drew1) | exact HB.out)))); have n1_ := Aside0.mk (below_step (by repeat (first | (with_reducible first | exact HB.out | apply below_alloc | apply pw_below_drewN | apply below_drew1) | exact HB.out)) hb); clear HB; have HO184 := n0_; have HB := n1_; clear n0_ n1_; clear hb ho113; obtain ⟨Ao114, co114, eo114⟩ := Kd.R_slice HO184.out; subst eo114) | ((with_reducible refine gate_callee (f := 7) rfl ?_); refine goesL_ (some 28) rfl rfl Tryd.func7 (by kernel_rfl) rfl #[.slice Ao114 y182.length co114, .int .i64 a2] rfl (by (try simp only [List.map_toArray, List.map_cons, List.map_nil]); first | done | rfl | (simp only [List.length_drop, List.length_take]; rfl)) ?_; (with_reducible refine (laws_light.calls kj3 _ _ y182 a2 false _ ?side1 ?side2 A7.out).mono ?_); (case side1 => repeat (first | exact (Kd.R_reads' HO184.out).2.2 | (with_reducible refine Kd.C_alloc ?_ _) | (with_reducible refine Kd.C_drewN ?_ _) | (with_reducible refine Kd.C_drew ?_))); (case side2 => exact (Kd.R_reads' HO184.out).2.1); rintro e w' ⟨rfl, ⟨nd, rfl⟩⟩; refine ⟨_, rfl, ?_⟩))
     go_ret
     exact ⟨by first | rfl | (simp [errW_none, errW_some] <;> rfl) | (simp [*, errW_none, errW_some] <;> rfl), by repeat (first | (with_reducible first | exact HB.out | apply below_alloc | apply pw_below_drewN | apply below_drew1) | exact HB.out)⟩


end Go.Proofs.YtblmbbllfiigmaaDoor.PAll
