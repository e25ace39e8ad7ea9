-- Printed by a program, out of the translation.
import Derived.Test.YtblmbbllfiigmaaDoorPAllx0
import Derived.Test.YtblmbbllfiigmaaDoorPAllx1
namespace Go.Proofs.YtblmbbllfiigmaaDoor.PAll
open Go.RowKit Go.Proofs.YtblmbbllfiigmaaDoorW.PrintWords Go.Proofs.YtblmbbllfiigmaaDoorW.PrintLast Go.Proofs.YtblmbbllfiigmaaDoorW.PrintMore
attribute [local go_sem] max2_int min2_int max_two min_two max_three min_three max_four min_four   -- for this text's walks alone
set_option linter.unusedVariables false
set_option linter.unusedSimpArgs false

/-! ### laws_piece: function 19 -/
def laws_piece.f (k : Nat) (a0 : Int) (a1 : Int) (a2 : ByteArray) (a3 : Int) (a4 : Int) : Option (ByteArray) := (some (([a0] : List Int) : List Int)).bind fun y106 => ((laws_big.f k (IntKind.u64.wrap ((a2.size : Int))) 3).bind fun t109 => (if (strOfNums y106).size + t109.size ≤ 9223372036854775807 then ((laws_big.f k (IntKind.u64.wrap (a1)) 2).bind fun t110 => (if ((strOfNums y106) ++ t109).size + t110.size ≤ 9223372036854775807 then ((laws_big.f k (IntKind.u64.wrap (a3)) 3).bind fun t111 => (if (((strOfNums y106) ++ t109) ++ t110).size + t111.size ≤ 9223372036854775807 then ((laws_big.f k (IntKind.u64.wrap (mn a4 (wrap64 ((a2.size : Int) - a3)))) 3).bind fun t112 => (if ((((strOfNums y106) ++ t109) ++ t110) ++ t111).size + t112.size ≤ 9223372036854775807 then (if 0 ≤ a3 then (if a3 ≤ (wrap64 (a3 + (mn a4 (wrap64 ((a2.size : Int) - a3))))) then (if (wrap64 (a3 + (mn a4 (wrap64 ((a2.size : Int) - a3))))) ≤ (a2.size : Int) then (if (((((strOfNums y106) ++ t109) ++ t110) ++ t111) ++ t112).size + (a2.extract (a3 : Int).toNat ((wrap64 (a3 + (mn a4 (wrap64 ((a2.size : Int) - a3))))) : Int).toNat).size ≤ 9223372036854775807 then (some ((((((strOfNums y106) ++ t109) ++ t110) ++ t111) ++ t112) ++ (a2.extract (a3 : Int).toNat ((wrap64 (a3 + (mn a4 (wrap64 ((a2.size : Int) - a3))))) : Int).toNat))) else (none)) else (none)) else (none)) else (none)) else (none))) else (none))) else (none))) else (none)))
def laws_piece.T2 : Bool × List (List Nat × List Nat) := (true, [([], []), ([0], [0]), ([1], [1]), ([], []), ([3], [3]), ([4], [4]), ([5], [5]), ([2, 6], [2, 6]), ([], []), ([8], [8]), ([9, 6], [9]), ([7, 10], [7, 10]), ([], []), ([12], [12]), ([13, 10], [13]), ([11, 14], [11, 14]), ([], []), ([16], [16]), ([17, 14], [17]), ([15, 18], [15, 18]), ([], []), ([], []), ([], []), ([], []), ([22, 23], [22, 23]), ([20, 21, 24], [20, 21, 24]), ([19, 25], [19, 25]), ([26, 18, 0, 1, 2, 3, 4, 5, 6, 7, 8, 9, 10, 11, 12, 13, 14, 15, 16, 17, 18, 19, 20, 21, 22, 23, 24, 25, 26], [26])])
def laws_piece.B2 : List Nat := [0, 1, 3, 0, 8, 24, 56, 127, 0, 256, 888, 2047, 0, 4096, 14200, 32767, 0, 65536, 227192, 524287, 0, 0, 0, 0, 12582912, 32505856, 67108863, 134217727]
theorem laws_piece.tab2 : rtab .any (opsOf Tryd.f19 2) = laws_piece.T2 := by kernel_rfl
theorem laws_piece.bits2 : waitsOk laws_piece.T2.2 laws_piece.B2 = true := by kernel_rfl
set_option maxHeartbeats 8000000 in
set_option maxRecDepth 100000 in
theorem laws_piece.calls (k : Nat) (a0 : Int) (a1 : Int) (a2 : ByteArray) (a3 : Int) (a4 : Int) (r : ByteArray) (w : World) (h : laws_piece.f k a0 a1 a2 a3 a4 = some r) :
    Calls Tryd.prog 19 #[.int .u8 a0, .int .i64 a1, .string a2, .int .i64 a3, .int .i64 a4] w fun e w' => e = .returned (.string r) ∧ Below w.heap.size w w' := by
 have HB := Aside0.mk (Below.refl w.heap.size w)
 have H : ((some (([a0] : List Int) : List Int)).bind fun y106 => ((laws_big.f k (IntKind.u64.wrap ((a2.size : Int))) 3).bind fun t109 => (if (strOfNums y106).size + t109.size ≤ 9223372036854775807 then ((laws_big.f k (IntKind.u64.wrap (a1)) 2).bind fun t110 => (if ((strOfNums y106) ++ t109).size + t110.size ≤ 9223372036854775807 then ((laws_big.f k (IntKind.u64.wrap (a3)) 3).bind fun t111 => (if (((strOfNums y106) ++ t109) ++ t110).size + t111.size ≤ 9223372036854775807 then ((laws_big.f k (IntKind.u64.wrap (mn a4 (wrap64 ((a2.size : Int) - a3)))) 3).bind fun t112 => (if ((((strOfNums y106) ++ t109) ++ t110) ++ t111).size + t112.size ≤ 9223372036854775807 then (if 0 ≤ a3 then (if a3 ≤ (wrap64 (a3 + (mn a4 (wrap64 ((a2.size : Int) - a3))))) then (if (wrap64 (a3 + (mn a4 (wrap64 ((a2.size : Int) - a3))))) ≤ (a2.size : Int) then (if (((((strOfNums y106) ++ t109) ++ t110) ++ t111) ++ t112).size + (a2.extract (a3 : Int).toNat ((wrap64 (a3 + (mn a4 (wrap64 ((a2.size : Int) - a3))))) : Int).toNat).size ≤ 9223372036854775807 then (some ((((((strOfNums y106) ++ t109) ++ t110) ++ t111) ++ t112) ++ (a2.extract (a3 : Int).toNat ((wrap64 (a3 + (mn a4 (wrap64 ((a2.size : Int) - a3))))) : Int).toNat))) else (none)) else (none)) else (none)) else (none)) else (none))) else (none))) else (none))) else (none)))) = some r := h
 clear h
 obtain ⟨ji6, hji6⟩ : ∃ j_ : Int, (mn a4 (wrap64 ((a2.size : Int) - a3))) = j_ := ⟨_, rfl⟩
 replace H : ((some (([a0] : List Int) : List Int)).bind fun y106 => ((laws_big.f k (IntKind.u64.wrap ((a2.size : Int))) 3).bind fun t109 => (if (strOfNums y106).size + t109.size ≤ 9223372036854775807 then ((laws_big.f k (IntKind.u64.wrap (a1)) 2).bind fun t110 => (if ((strOfNums y106) ++ t109).size + t110.size ≤ 9223372036854775807 then ((laws_big.f k (IntKind.u64.wrap (a3)) 3).bind fun t111 => (if (((strOfNums y106) ++ t109) ++ t110).size + t111.size ≤ 9223372036854775807 then ((laws_big.f k (IntKind.u64.wrap (ji6)) 3).bind fun t112 => (if ((((strOfNums y106) ++ t109) ++ t110) ++ t111).size + t112.size ≤ 9223372036854775807 then (if 0 ≤ a3 then (if a3 ≤ (wrap64 (a3 + (ji6))) then (if (wrap64 (a3 + (ji6))) ≤ (a2.size : Int) then (if (((((strOfNums y106) ++ t109) ++ t110) ++ t111) ++ t112).size + (a2.extract (a3 : Int).toNat ((wrap64 (a3 + (ji6))) : Int).toNat).size ≤ 9223372036854775807 then (some ((((((strOfNums y106) ++ t109) ++ t110) ++ t111) ++ t112) ++ (a2.extract (a3 : Int).toNat ((wrap64 (a3 + (ji6))) : Int).toNat))) else (none)) else (none)) else (none)) else (none)) else (none))) else (none))) else (none))) else (none)))) = some r := by first | (rw [hji6] at H; exact H) | (simp only [hji6] at H ⊢; exact H)
 have hji6_ : (if (wrap64 ((a2.size : Int) - a3)) < a4 then (wrap64 ((a2.size : Int) - a3)) else a4) = ji6 := hji6
 obtain ⟨y106, hy106⟩ : ∃ y_ : List Int, y_ = (([a0] : List Int)) := ⟨_, rfl⟩
 replace H : ((laws_big.f k (IntKind.u64.wrap ((a2.size : Int))) 3).bind fun t109 => (if (strOfNums y106).size + t109.size ≤ 9223372036854775807 then ((laws_big.f k (IntKind.u64.wrap (a1)) 2).bind fun t110 => (if ((strOfNums y106) ++ t109).size + t110.size ≤ 9223372036854775807 then ((laws_big.f k (IntKind.u64.wrap (a3)) 3).bind fun t111 => (if (((strOfNums y106) ++ t109) ++ t110).size + t111.size ≤ 9223372036854775807 then ((laws_big.f k (IntKind.u64.wrap (ji6)) 3).bind fun t112 => (if ((((strOfNums y106) ++ t109) ++ t110) ++ t111).size + t112.size ≤ 9223372036854775807 then (if 0 ≤ a3 then (if a3 ≤ (wrap64 (a3 + (ji6))) then (if (wrap64 (a3 + (ji6))) ≤ (a2.size : Int) then (if (((((strOfNums y106) ++ t109) ++ t110) ++ t111) ++ t112).size + (a2.extract (a3 : Int).toNat ((wrap64 (a3 + (ji6))) : Int).toNat).size ≤ 9223372036854775807 then (some ((((((strOfNums y106) ++ t109) ++ t110) ++ t111) ++ t112) ++ (a2.extract (a3 : Int).toNat ((wrap64 (a3 + (ji6))) : Int).toNat))) else (none)) else (none)) else (none)) else (none)) else (none))) else (none))) else (none))) else (none))) = some r := by first | (rw [hy106]; with_reducible exact H) | (have H2_ := (Option.bind_some _ _).symm.trans H; rw [hy106]; with_reducible exact H2_) | (have H2_ := (Option.bind_some _ _).symm.trans H; with_reducible exact H2_) | with_reducible exact H | (rw [hy106]; exact H) | exact H
 have Ny106 := Aside0.mk hy106
 clear hy106
 replace H := Option.bind_eq_some_iff.mp H
 obtain ⟨t109, A70, H⟩ := H
 replace H : (if (strOfNums y106).size + t109.size ≤ 9223372036854775807 then ((laws_big.f k (IntKind.u64.wrap (a1)) 2).bind fun t110 => (if ((strOfNums y106) ++ t109).size + t110.size ≤ 9223372036854775807 then ((laws_big.f k (IntKind.u64.wrap (a3)) 3).bind fun t111 => (if (((strOfNums y106) ++ t109) ++ t110).size + t111.size ≤ 9223372036854775807 then ((laws_big.f k (IntKind.u64.wrap (ji6)) 3).bind fun t112 => (if ((((strOfNums y106) ++ t109) ++ t110) ++ t111).size + t112.size ≤ 9223372036854775807 then (if 0 ≤ a3 then (if a3 ≤ (wrap64 (a3 + (ji6))) then (if (wrap64 (a3 + (ji6))) ≤ (a2.size : Int) then (if (((((strOfNums y106) ++ t109) ++ t110) ++ t111) ++ t112).size + (a2.extract (a3 : Int).toNat ((wrap64 (a3 + (ji6))) : Int).toNat).size ≤ 9223372036854775807 then (some ((((((strOfNums y106) ++ t109) ++ t110) ++ t111) ++ t112) ++ (a2.extract (a3 : Int).toNat ((wrap64 (a3 + (ji6))) : Int).toNat))) else (none)) else (none)) else (none)) else (none)) else (none))) else (none))) else (none))) else (none)) = some r := H
 have A7 := Aside0.mk A70
 clear A70
 by_cases c8 : (strOfNums y106).size + t109.size ≤ 9223372036854775807
 rotate_left
 ·rw [if_neg c8] at H
  exact absurd H (by simp)
 rw [if_pos c8] at H
 have c8b0 := eq_true c8
 have c8f := c8
 try simp only [ByteArray.size_append, show (⟨#[22, 254, 253, 0, 0]⟩ : ByteArray).size = 5 from rfl] at c8f
 have c8g := eq_false (Nat.not_lt.2 c8f)
 have c8b1 : decide ((strOfNums y106).size + t109.size ≤ 9223372036854775807) = true := decide_eq_true c8
 try have c8b2 : (9223372036854775807 < (strOfNums y106).size + t109.size) = False := eq_false (Nat.not_lt.2 c8)
 replace H := Option.bind_eq_some_iff.mp H
 obtain ⟨t110, A90, H⟩ := H
 replace H : (if ((strOfNums y106) ++ t109).size + t110.size ≤ 9223372036854775807 then ((laws_big.f k (IntKind.u64.wrap (a3)) 3).bind fun t111 => (if (((strOfNums y106) ++ t109) ++ t110).size + t111.size ≤ 9223372036854775807 then ((laws_big.f k (IntKind.u64.wrap (ji6)) 3).bind fun t112 => (if ((((strOfNums y106) ++ t109) ++ t110) ++ t111).size + t112.size ≤ 9223372036854775807 then (if 0 ≤ a3 then (if a3 ≤ (wrap64 (a3 + (ji6))) then (if (wrap64 (a3 + (ji6))) ≤ (a2.size : Int) then (if (((((strOfNums y106) ++ t109) ++ t110) ++ t111) ++ t112).size + (a2.extract (a3 : Int).toNat ((wrap64 (a3 + (ji6))) : Int).toNat).size ≤ 9223372036854775807 then (some ((((((strOfNums y106) ++ t109) ++ t110) ++ t111) ++ t112) ++ (a2.extract (a3 : Int).toNat ((wrap64 (a3 + (ji6))) : Int).toNat))) else (none)) else (none)) else (none)) else (none)) else (none))) else (none))) else (none)) = some r := H
 have A9 := Aside0.mk A90
 clear A90
 by_cases c10 : ((strOfNums y106) ++ t109).size + t110.size ≤ 9223372036854775807
 rotate_left
 ·rw [if_neg c10] at H
  exact absurd H (by simp)
 rw [if_pos c10] at H
 have c10b0 := eq_true c10
 have c10f := c10
 try simp only [ByteArray.size_append, show (⟨#[22, 254, 253, 0, 0]⟩ : ByteArray).size = 5 from rfl] at c10f
 have c10g := eq_false (Nat.not_lt.2 c10f)
 have c10b1 : decide (((strOfNums y106) ++ t109).size + t110.size ≤ 9223372036854775807) = true := decide_eq_true c10
 try have c10b2 : (9223372036854775807 < ((strOfNums y106) ++ t109).size + t110.size) = False := eq_false (Nat.not_lt.2 c10)
 replace H := Option.bind_eq_some_iff.mp H
 obtain ⟨t111, A110, H⟩ := H
 replace H : (if (((strOfNums y106) ++ t109) ++ t110).size + t111.size ≤ 9223372036854775807 then ((laws_big.f k (IntKind.u64.wrap (ji6)) 3).bind fun t112 => (if ((((strOfNums y106) ++ t109) ++ t110) ++ t111).size + t112.size ≤ 9223372036854775807 then (if 0 ≤ a3 then (if a3 ≤ (wrap64 (a3 + (ji6))) then (if (wrap64 (a3 + (ji6))) ≤ (a2.size : Int) then (if (((((strOfNums y106) ++ t109) ++ t110) ++ t111) ++ t112).size + (a2.extract (a3 : Int).toNat ((wrap64 (a3 + (ji6))) : Int).toNat).size ≤ 9223372036854775807 then (some ((((((strOfNums y106) ++ t109) ++ t110) ++ t111) ++ t112) ++ (a2.extract (a3 : Int).toNat ((wrap64 (a3 + (ji6))) : Int).toNat))) else (none)) else (none)) else (none)) else (none)) else (none))) else (none)) = some r := H
 have A11 := Aside0.mk A110
 clear A110
 by_cases c12 : (((strOfNums y106) ++ t109) ++ t110).size + t111.size ≤ 9223372036854775807
 rotate_left
 ·rw [if_neg c12] at H
  exact absurd H (by simp)
 rw [if_pos c12] at H
 have c12b0 := eq_true c12
 have c12f := c12
 try simp only [ByteArray.size_append, show (⟨#[22, 254, 253, 0, 0]⟩ : ByteArray).size = 5 from rfl] at c12f
 have c12g := eq_false (Nat.not_lt.2 c12f)
 have c12b1 : decide ((((strOfNums y106) ++ t109) ++ t110).size + t111.size ≤ 9223372036854775807) = true := decide_eq_true c12
 try have c12b2 : (9223372036854775807 < (((strOfNums y106) ++ t109) ++ t110).size + t111.size) = False := eq_false (Nat.not_lt.2 c12)
 replace H := Option.bind_eq_some_iff.mp H
 obtain ⟨t112, A130, H⟩ := H
 replace H : (if ((((strOfNums y106) ++ t109) ++ t110) ++ t111).size + t112.size ≤ 9223372036854775807 then (if 0 ≤ a3 then (if a3 ≤ (wrap64 (a3 + (ji6))) then (if (wrap64 (a3 + (ji6))) ≤ (a2.size : Int) then (if (((((strOfNums y106) ++ t109) ++ t110) ++ t111) ++ t112).size + (a2.extract (a3 : Int).toNat ((wrap64 (a3 + (ji6))) : Int).toNat).size ≤ 9223372036854775807 then (some ((((((strOfNums y106) ++ t109) ++ t110) ++ t111) ++ t112) ++ (a2.extract (a3 : Int).toNat ((wrap64 (a3 + (ji6))) : Int).toNat))) else (none)) else (none)) else (none)) else (none)) else (none)) = some r := H
 have A13 := Aside0.mk A130
 clear A130
 by_cases c14 : ((((strOfNums y106) ++ t109) ++ t110) ++ t111).size + t112.size ≤ 9223372036854775807
 rotate_left
 ·rw [if_neg c14] at H
  exact absurd H (by simp)
 rw [if_pos c14] at H
 have c14b0 := eq_true c14
 have c14f := c14
 try simp only [ByteArray.size_append, show (⟨#[22, 254, 253, 0, 0]⟩ : ByteArray).size = 5 from rfl] at c14f
 have c14g := eq_false (Nat.not_lt.2 c14f)
 have c14b1 : decide (((((strOfNums y106) ++ t109) ++ t110) ++ t111).size + t112.size ≤ 9223372036854775807) = true := decide_eq_true c14
 try have c14b2 : (9223372036854775807 < ((((strOfNums y106) ++ t109) ++ t110) ++ t111).size + t112.size) = False := eq_false (Nat.not_lt.2 c14)
 by_cases c15 : 0 ≤ a3
 rotate_left
 ·rw [if_neg c15] at H
  exact absurd H (by simp)
 rw [if_pos c15] at H
 have c15b0 := eq_true c15
 have c15b1 : decide (0 ≤ a3) = true := decide_eq_true c15
 clear c15
 by_cases c16 : a3 ≤ (wrap64 (a3 + (ji6)))
 rotate_left
 ·rw [if_neg c16] at H
  exact absurd H (by simp)
 rw [if_pos c16] at H
 have c16b0 := eq_true c16
 have c16b1 : decide (a3 ≤ (wrap64 (a3 + (ji6)))) = true := decide_eq_true c16
 by_cases c17 : (wrap64 (a3 + (ji6))) ≤ (a2.size : Int)
 rotate_left
 ·rw [if_neg c17] at H
  exact absurd H (by simp)
 rw [if_pos c17] at H
 have c17b0 := eq_true c17
 have c17b1 : decide ((wrap64 (a3 + (ji6))) ≤ (a2.size : Int)) = true := decide_eq_true c17
 by_cases c18 : (((((strOfNums y106) ++ t109) ++ t110) ++ t111) ++ t112).size + (a2.extract (a3 : Int).toNat ((wrap64 (a3 + (ji6))) : Int).toNat).size ≤ 9223372036854775807
 rotate_left
 ·rw [if_neg c18] at H
  exact absurd H (by simp)
 rw [if_pos c18] at H
 have c18b0 := eq_true c18
 have c18f := c18
 try simp only [ByteArray.size_append, show (⟨#[22, 254, 253, 0, 0]⟩ : ByteArray).size = 5 from rfl] at c18f
 have c18g := eq_false (Nat.not_lt.2 c18f)
 have c18k := c18f
 rw [ByteArray.size_extract, Nat.min_eq_left (show ((wrap64 (a3 + (ji6))) : Int).toNat ≤ a2.size by omega)] at c18k
 have c18m := eq_false (Nat.not_lt.2 c18k)
 have c18b1 : decide ((((((strOfNums y106) ++ t109) ++ t110) ++ t111) ++ t112).size + (a2.extract (a3 : Int).toNat ((wrap64 (a3 + (ji6))) : Int).toNat).size ≤ 9223372036854775807) = true := decide_eq_true c18
 try have c18b2 : (9223372036854775807 < (((((strOfNums y106) ++ t109) ++ t110) ++ t111) ++ t112).size + (a2.extract (a3 : Int).toNat ((wrap64 (a3 + (ji6))) : Int).toNat).size) = False := eq_false (Nat.not_lt.2 c18)
 obtain rfl := Option.some.inj H
 go_enter Tryd.func19, Tryd.ntmps19
 try go_wp2
 have n0_ := Aside0.mk (below_drew1 HB.out)
 clear HB
 have HB := n0_
 clear n0_
 refine start_ (n := 28) (S := fun w' => True) (ds := []) #[false, false, false, false, false, false, false, false, false, false, false, false, false, false, false, false, false, false, false, false, false, false, false, false, false, false, false, false] (by kernel_rfl) rfl rfl trivial (fun hHeld => ?_); refine with_tabW laws_piece.tab2 laws_piece.bits2 (fun HT_ HW_ => ?_)
 generalize w.drew = w19 at HB hHeld ⊢
 refine pure_ (i := 0) (N := some 17) (v := ?_) (a' := ?_) #[true, false, false, false, false, false, false, false, false, false, false, false, false, false, false, false, false, false, false, false, false, false, false, false, false, false, false, false] rfl rfl (any_of HT_.out (by kernel_rfl)) (fun _ _ _ h => h) (Or.inl ⟨by rfl, ?_⟩) ?_ ?_
 rotate_left
 ·intro w'
  go_simp
  with_reducible rfl
 rotate_left
 ·simp only [Act.put, List.setIfInBounds_toArray, List.set_cons_zero, List.set_cons_succ, i64_w, i32_w]
  rfl
 refine pure_ (i := 3) (N := some 20) (v := ?_) (a' := ?_) #[true, false, false, true, false, false, false, false, false, false, false, false, false, false, false, false, false, false, false, false, false, false, false, false, false, false, false, false] rfl rfl (any_of HT_.out (by kernel_rfl)) (fun _ _ _ h => h) (Or.inl ⟨by rfl, ?_⟩) ?_ ?_
 rotate_left
 ·intro w'
  go_simp
  with_reducible rfl
 rotate_left
 ·simp only [Act.put, List.setIfInBounds_toArray, List.set_cons_zero, List.set_cons_succ, i64_w, i32_w]
  rfl
 refine pure_ (i := 4) (N := some 21) (v := ?_) (a' := ?_) #[true, false, false, true, true, false, false, false, false, false, false, false, false, false, false, false, false, false, false, false, false, false, false, false, false, false, false, false] rfl rfl (any_of HT_.out (by kernel_rfl)) (fun _ _ _ h => h) (Or.inl ⟨by rfl, ?_⟩) ?_ ?_
 rotate_left
 ·intro w'
  go_simp
  with_reducible rfl
 rotate_left
 ·simp only [Act.put, List.setIfInBounds_toArray, List.set_cons_zero, List.set_cons_succ, i64_w, i32_w]
  rfl
 refine pure_ (i := 5) (N := some 22) (v := ?_) (a' := ?_) #[true, false, false, true, true, true, false, false, false, false, false, false, false, false, false, false, false, false, false, false, false, false, false, false, false, false, false, false] rfl rfl (any_of HT_.out (by kernel_rfl)) (fun _ _ _ h => h) (Or.inl ⟨by rfl, ?_⟩) ?_ ?_
 rotate_left
 ·intro w'
  go_simp
  with_reducible rfl
 rotate_left
 ·simp only [Act.put, List.setIfInBounds_toArray, List.set_cons_zero, List.set_cons_succ, i64_w, i32_w]
  rfl
 refine pure_ (i := 8) (N := some 25) (v := ?_) (a' := ?_) #[true, false, false, true, true, true, false, false, true, false, false, false, false, false, false, false, false, false, false, false, false, false, false, false, false, false, false, false] rfl rfl (any_of HT_.out (by kernel_rfl)) (fun _ _ _ h => h) (Or.inl ⟨by rfl, ?_⟩) ?_ ?_
 rotate_left
 ·intro w'
  go_simp
  with_reducible rfl
 rotate_left
 ·simp only [Act.put, List.setIfInBounds_toArray, List.set_cons_zero, List.set_cons_succ, i64_w, i32_w]
  rfl
 refine pure_ (i := 9) (N := some 26) (v := ?_) (a' := ?_) #[true, false, false, true, true, true, false, false, true, true, false, false, false, false, false, false, false, false, false, false, false, false, false, false, false, false, false, false] rfl rfl (any_of HT_.out (by kernel_rfl)) (fun _ _ _ h => h) (Or.inl ⟨by rfl, ?_⟩) ?_ ?_
 rotate_left
 ·intro w'
  go_simp
  with_reducible rfl
 rotate_left
 ·simp only [Act.put, List.setIfInBounds_toArray, List.set_cons_zero, List.set_cons_succ, i64_w, i32_w]
  rfl
 refine pure_ (i := 12) (N := some 29) (v := ?_) (a' := ?_) #[true, false, false, true, true, true, false, false, true, true, false, false, true, false, false, false, false, false, false, false, false, false, false, false, false, false, false, false] rfl rfl (any_of HT_.out (by kernel_rfl)) (fun _ _ _ h => h) (Or.inl ⟨by rfl, ?_⟩) ?_ ?_
 rotate_left
 ·intro w'
  go_simp
  with_reducible rfl
 rotate_left
 ·simp only [Act.put, List.setIfInBounds_toArray, List.set_cons_zero, List.set_cons_succ, i64_w, i32_w]
  rfl
 refine pure_ (i := 13) (N := some 30) (v := ?_) (a' := ?_) #[true, false, false, true, true, true, false, false, true, true, false, false, true, true, false, false, false, false, false, false, false, false, false, false, false, false, false, false] rfl rfl (any_of HT_.out (by kernel_rfl)) (fun _ _ _ h => h) (Or.inl ⟨by rfl, ?_⟩) ?_ ?_
 rotate_left
 ·intro w'
  go_simp
  with_reducible rfl
 rotate_left
 ·simp only [Act.put, List.setIfInBounds_toArray, List.set_cons_zero, List.set_cons_succ, i64_w, i32_w]
  rfl
 refine pure_ (i := 16) (N := some 33) (v := ?_) (a' := ?_) #[true, false, false, true, true, true, false, false, true, true, false, false, true, true, false, false, true, false, false, false, false, false, false, false, false, false, false, false] rfl rfl (any_of HT_.out (by kernel_rfl)) (fun _ _ _ h => h) (Or.inl ⟨by rfl, ?_⟩) ?_ ?_
 rotate_left
 ·intro w'
  go_simp
  with_reducible rfl
 rotate_left
 ·simp only [Act.put, List.setIfInBounds_toArray, List.set_cons_zero, List.set_cons_succ, i64_w, i32_w]
  rfl
 refine pure_ (i := 17) (N := some 34) (v := ?_) (a' := ?_) #[true, false, false, true, true, true, false, false, true, true, false, false, true, true, false, false, true, true, false, false, false, false, false, false, false, false, false, false] rfl rfl (any_of HT_.out (by kernel_rfl)) (fun _ _ _ h => h) (Or.inl ⟨by rfl, ?_⟩) ?_ ?_
 rotate_left
 ·intro w'
  go_simp
  with_reducible rfl
 rotate_left
 ·simp only [Act.put, List.setIfInBounds_toArray, List.set_cons_zero, List.set_cons_succ, i64_w, i32_w]
  rfl
 refine pure_ (i := 20) (N := some 37) (v := ?_) (a' := ?_) #[true, false, false, true, true, true, false, false, true, true, false, false, true, true, false, false, true, true, false, false, true, false, false, false, false, false, false, false] rfl rfl (any_of HT_.out (by kernel_rfl)) (fun _ _ _ h => h) (Or.inl ⟨by rfl, ?_⟩) ?_ ?_
 rotate_left
 ·intro w'
  go_simp
  with_reducible rfl
 rotate_left
 ·simp only [Act.put, List.setIfInBounds_toArray, List.set_cons_zero, List.set_cons_succ, i64_w, i32_w]
  rfl
 refine pure_ (i := 21) (N := some 38) (v := ?_) (a' := ?_) #[true, false, false, true, true, true, false, false, true, true, false, false, true, true, false, false, true, true, false, false, true, true, false, false, false, false, false, false] rfl rfl (any_of HT_.out (by kernel_rfl)) (fun _ _ _ h => h) (Or.inl ⟨by rfl, ?_⟩) ?_ ?_
 rotate_left
 ·intro w'
  go_simp
  with_reducible rfl
 rotate_left
 ·simp only [Act.put, List.setIfInBounds_toArray, List.set_cons_zero, List.set_cons_succ, i64_w, i32_w]
  rfl
 refine pure_ (i := 22) (N := some 39) (v := ?_) (a' := ?_) #[true, false, false, true, true, true, false, false, true, true, false, false, true, true, false, false, true, true, false, false, true, true, true, false, false, false, false, false] rfl rfl (any_of HT_.out (by kernel_rfl)) (fun _ _ _ h => h) (Or.inl ⟨by rfl, ?_⟩) ?_ ?_
 rotate_left
 ·intro w'
  go_simp
  with_reducible rfl
 rotate_left
 ·simp only [Act.put, List.setIfInBounds_toArray, List.set_cons_zero, List.set_cons_succ, i64_w, i32_w]
  rfl
 refine pure_ (i := 23) (N := some 40) (v := ?_) (a' := ?_) #[true, false, false, true, true, true, false, false, true, true, false, false, true, true, false, false, true, true, false, false, true, true, true, true, false, false, false, false] rfl rfl (any_of HT_.out (by kernel_rfl)) (fun _ _ _ h => h) (Or.inl ⟨by rfl, ?_⟩) ?_ ?_
 rotate_left
 ·intro w'
  go_simp
  with_reducible rfl
 rotate_left
 ·simp only [Act.put, List.setIfInBounds_toArray, List.set_cons_zero, List.set_cons_succ, i64_w, i32_w]
  rfl
 refine pure_ (i := 24) (N := some 41) (v := ?_) (a' := ?_) #[true, false, false, true, true, true, false, false, true, true, false, false, true, true, false, false, true, true, false, false, true, true, true, true, true, false, false, false] rfl rfl (any_of HT_.out (by kernel_rfl)) (fun _ _ _ h => h) (Or.inl ⟨by rfl, ?_⟩) ?_ ?_
 rotate_left
 ·intro w'
  go_simp
  with_reducible rfl
 rotate_left
 ·simp only [Act.put, List.setIfInBounds_toArray, List.set_cons_zero, List.set_cons_succ, i64_w, i32_w]
  rfl
 refine pure_ (i := 25) (N := some 42) (v := ?_) (a' := ?_) #[true, false, false, true, true, true, false, false, true, true, false, false, true, true, false, false, true, true, false, false, true, true, true, true, true, true, false, false] rfl rfl (any_of HT_.out (by kernel_rfl)) (fun _ _ _ h => h) (Or.inl ⟨by rfl, ?_⟩) ?_ ?_
 rotate_left
 ·intro w'
  go_simp
  with_reducible rfl
 rotate_left
 ·simp only [Act.put, List.setIfInBounds_toArray, List.set_cons_zero, List.set_cons_succ, i64_w, i32_w]
  rfl
 refine join_ (σ := Value) 3 #[true, true, true, true, true, true, true, true, true, true, true, true, true, true, true, true, true, true, true, false, true, true, true, true, true, true, false, false] (fun s_ => [(18, s_), (19, .string (strOfNums y106)), (23, .string t109), (27, .string t110), (31, .string t111), (35, .string t112), (24, .string ((strOfNums y106) ++ t109)), (28, .string (((strOfNums y106) ++ t109) ++ t110)), (32, .string ((((strOfNums y106) ++ t109) ++ t110) ++ t111))]) (fun s_ w' => (Kd.R (Kd.int .u8) 5 w' w.heap.size (fun _ => True) s_ y106) ∧ (Below w.heap.size w w')) ?_ ?_
 rotate_left
 ·intro hJ1_2_6_10_14_18
  refine join_ (σ := Value) 4 #[true, true, true, true, true, true, true, true, true, true, true, true, true, true, true, true, true, true, false, false, true, true, true, true, true, true, false, false] (fun s_ => [(18, s_), (19, .string (strOfNums y106)), (23, .string t109), (27, .string t110), (31, .string t111), (24, .string ((strOfNums y106) ++ t109)), (28, .string (((strOfNums y106) ++ t109) ++ t110)), (32, .string ((((strOfNums y106) ++ t109) ++ t110) ++ t111))]) (fun s_ w' => (Kd.R (Kd.int .u8) 5 w' w.heap.size (fun _ => True) s_ y106) ∧ (Below w.heap.size w w')) ?_ ?_
  ·skip
   rintro v107 w26 ⟨h0_, h1_⟩
   have n0_ : Aside0 (Kd.R (Kd.int .u8) 5 w26 w.heap.size (fun _ => True) v107 y106) := ⟨h0_⟩
   have n1_ : Aside0 (Below w.heap.size w w26) := ⟨h1_⟩
   clear HB
   clear h0_ h1_
   have HO108 := n0_
   have HB := n1_
   clear n0_ n1_
   have hHeld := trivial
   refine norm_ (a' := ?_) ?_ ?_
   rotate_left
   ·simp only [putAll, Act.put, List.setIfInBounds_toArray, List.set_cons_zero, List.set_cons_succ]
    rfl
   refine one_ (i := 18) (N := some 35) #[true, true, true, true, true, true, true, true, true, true, true, true, true, true, true, true, true, true, true, false, true, true, true, true, true, true, false, false] rfl rfl (one_of HT_.out (by kernel_rfl)) (by decide) (fun K hK => ?_)
   refine goes_ Tryd.func21 (by kernel_rfl) rfl #[.int .u64 (IntKind.u64.wrap (ji6)), .int .i64 3] (by rfl) rfl rfl (by (try simp only [List.map_toArray, List.map_cons, List.map_nil]); first | done | (simp only [hji6]; rfl) | rfl | (simp only [List.length_drop, List.length_take]; rfl)) ?_
   with_reducible refine (laws_big.calls k (IntKind.u64.wrap (ji6)) 3 t112 _ A13.out).mono ?_
   rintro e w27 ⟨rfl, hb⟩
   refine ⟨_, rfl, ?_⟩
   have n0_ := Aside0.mk (Kd.R_below (by (with_reducible repeat (first | apply Kd.R_alloc | apply Kd.R_drewN | apply Kd.R_drew)); exact HO108.out) hb)
   have n1_ := Aside0.mk (below_step (by repeat (first | (with_reducible first | exact HB.out | apply below_alloc | apply pw_below_drewN | apply below_drew1) | exact HB.out)) hb)
   clear HO108
   clear HB
   have HO108 := n0_
   have HB := n1_
   clear n0_ n1_
   (try clear hb)
   (try clear hb2)
   (try clear hk)
   (try clear hi)
   refine hK.out _ _ trivial (fun hHeld => ?_)
   clear hK K
   refine norm_ (a' := ?_) ?_ ?_
   rotate_left
   ·show Act.put _ (some 35) _ = _
    simp only [Act.put, List.setIfInBounds_toArray, List.set_cons_zero, List.set_cons_succ, i64_w, i32_w]
    rfl
   exact norm_ (by first | (simp only [putAll, Act.put, List.setIfInBounds_toArray, List.set_cons_zero, List.set_cons_succ]; done) | (simp only [putAll, Act.put, List.setIfInBounds_toArray, List.set_cons_zero, List.set_cons_succ]; rfl)) (hJ1_2_6_10_14_18 (v107) _ ⟨(by (with_reducible repeat (first | apply Kd.R_alloc | apply Kd.R_drewN | apply Kd.R_drew)); exact HO108.out), (by repeat (first | (with_reducible first | exact HB.out | apply below_alloc | apply pw_below_drewN | apply below_drew1) | exact HB.out))⟩)
  intro hJ1_2_6_10_14
  refine join_ (σ := Value) 7 #[true, true, false, true, true, true, true, false, true, true, true, false, true, true, true, false, true, true, true, false, true, true, true, true, true, true, false, false] (fun s_ => [(18, s_), (23, .string t109), (27, .string t110), (31, .string t111), (35, .string t112)]) (fun s_ w' => (Kd.R (Kd.int .u8) 5 w' w.heap.size (fun _ => True) s_ y106) ∧ (Below w.heap.size w w')) ?_ ?_
  ·skip
   rintro v107 w26 ⟨h0_, h1_⟩
   have n0_ : Aside0 (Kd.R (Kd.int .u8) 5 w26 w.heap.size (fun _ => True) v107 y106) := ⟨h0_⟩
   have n1_ : Aside0 (Below w.heap.size w w26) := ⟨h1_⟩
   clear HB
   clear h0_ h1_
   have HO108 := n0_
   have HB := n1_
   clear n0_ n1_
   have hHeld := trivial
   refine norm_ (a' := ?_) ?_ ?_
   rotate_left
   ·simp only [putAll, Act.put, List.setIfInBounds_toArray, List.set_cons_zero, List.set_cons_succ]
    rfl
   refine one_ (i := 2) (N := some 19) #[true, true, true, true, true, true, true, false, true, true, true, false, true, true, true, false, true, true, true, false, true, true, true, true, true, true, false, false] rfl rfl (one_of HT_.out (by kernel_rfl)) (by decide) (fun K hK => ?_)
   have hcv27 := own_string (P := Tryd.prog) Tryd.underlying59 Tryd.underlying5 Tryd.underlying9 (Kd.own_of_R HO108.out)
   refine value_ (w1 := ?_) (v := ?_) (by rfl) rfl ?_ ?_
   rotate_left 2
   ·go_simp
    constructor
    ·rfl
    rfl
   clear hcv27
   refine hK.out _ _ trivial (fun hHeld => ?_)
   clear hK K
   refine norm_ (a' := ?_) ?_ ?_
   rotate_left
   ·show Act.put _ (some 19) _ = _
    simp only [Act.put, List.setIfInBounds_toArray, List.set_cons_zero, List.set_cons_succ, i64_w, i32_w]
    rfl
   refine pure_ (i := 7) (N := some 24) (v := ?_) (a' := ?_) #[true, true, true, true, true, true, true, true, true, true, true, false, true, true, true, false, true, true, true, false, true, true, true, true, true, true, false, false] rfl rfl (any_of HT_.out (by kernel_rfl)) (fun _ _ _ h => h) (Or.inl ⟨by rfl, ?_⟩) ?_ ?_
   rotate_left
   ·intro w'
    go_simp
    with_reducible rfl
   rotate_left
   ·simp only [Act.put, List.setIfInBounds_toArray, List.set_cons_zero, List.set_cons_succ, i64_w, i32_w]
    rfl
   refine pure_ (i := 11) (N := some 28) (v := ?_) (a' := ?_) #[true, true, true, true, true, true, true, true, true, true, true, true, true, true, true, false, true, true, true, false, true, true, true, true, true, true, false, false] rfl rfl (any_of HT_.out (by kernel_rfl)) (fun _ _ _ h => h) (Or.inl ⟨by rfl, ?_⟩) ?_ ?_
   rotate_left
   ·intro w'
    go_simp
    with_reducible rfl
   rotate_left
   ·simp only [Act.put, List.setIfInBounds_toArray, List.set_cons_zero, List.set_cons_succ, i64_w, i32_w]
    rfl
   refine pure_ (i := 15) (N := some 32) (v := ?_) (a' := ?_) #[true, true, true, true, true, true, true, true, true, true, true, true, true, true, true, true, true, true, true, false, true, true, true, true, true, true, false, false] rfl rfl (any_of HT_.out (by kernel_rfl)) (fun _ _ _ h => h) (Or.inl ⟨by rfl, ?_⟩) ?_ ?_
   rotate_left
   ·intro w'
    go_simp
    with_reducible rfl
   rotate_left
   ·simp only [Act.put, List.setIfInBounds_toArray, List.set_cons_zero, List.set_cons_succ, i64_w, i32_w]
    rfl
   exact norm_ (by first | (simp only [putAll, Act.put, List.setIfInBounds_toArray, List.set_cons_zero, List.set_cons_succ]; done) | (simp only [putAll, Act.put, List.setIfInBounds_toArray, List.set_cons_zero, List.set_cons_succ]; rfl)) (hJ1_2_6_10_14_18 (v107) _ ⟨(by (with_reducible repeat (first | apply Kd.R_alloc | apply Kd.R_drewN | apply Kd.R_drew)); exact HO108.out), (by repeat (first | (with_reducible first | exact HB.out | apply below_alloc | apply pw_below_drewN | apply below_drew1) | exact HB.out))⟩)
  intro hJ1_6_10_14_18
  refine join_ (σ := Value) 6 #[true, true, true, true, true, true, true, true, true, true, true, true, true, true, false, false, true, true, false, false, true, true, true, true, true, true, false, false] (fun s_ => [(18, s_), (19, .string (strOfNums y106)), (23, .string t109), (27, .string t110), (24, .string ((strOfNums y106) ++ t109)), (28, .string (((strOfNums y106) ++ t109) ++ t110))]) (fun s_ w' => (Kd.R (Kd.int .u8) 5 w' w.heap.size (fun _ => True) s_ y106) ∧ (Below w.heap.size w w')) ?_ ?_
  ·skip
   rintro v107 w25 ⟨h0_, h1_⟩
   have n0_ : Aside0 (Kd.R (Kd.int .u8) 5 w25 w.heap.size (fun _ => True) v107 y106) := ⟨h0_⟩
   have n1_ : Aside0 (Below w.heap.size w w25) := ⟨h1_⟩
   clear HB
   clear h0_ h1_
   have HO108 := n0_
   have HB := n1_
   clear n0_ n1_
   have hHeld := trivial
   refine norm_ (a' := ?_) ?_ ?_
   rotate_left
   ·simp only [putAll, Act.put, List.setIfInBounds_toArray, List.set_cons_zero, List.set_cons_succ]
    rfl
   refine one_ (i := 14) (N := some 31) #[true, true, true, true, true, true, true, true, true, true, true, true, true, true, true, false, true, true, false, false, true, true, true, true, true, true, false, false] rfl rfl (one_of HT_.out (by kernel_rfl)) (by decide) (fun K hK => ?_)
   refine goes_ Tryd.func21 (by kernel_rfl) rfl #[.int .u64 (IntKind.u64.wrap (a3)), .int .i64 3] (by rfl) rfl rfl (by (try simp only [List.map_toArray, List.map_cons, List.map_nil]); first | done | rfl | (simp only [List.length_drop, List.length_take]; rfl)) ?_
   with_reducible refine (laws_big.calls k (IntKind.u64.wrap (a3)) 3 t111 _ A11.out).mono ?_
   rintro e w26 ⟨rfl, hb⟩
   refine ⟨_, rfl, ?_⟩
   have n0_ := Aside0.mk (Kd.R_below (by (with_reducible repeat (first | apply Kd.R_alloc | apply Kd.R_drewN | apply Kd.R_drew)); exact HO108.out) hb)
   have n1_ := Aside0.mk (below_step (by repeat (first | (with_reducible first | exact HB.out | apply below_alloc | apply pw_below_drewN | apply below_drew1) | exact HB.out)) hb)
   clear HO108
   clear HB
   have HO108 := n0_
   have HB := n1_
   clear n0_ n1_
   (try clear hb)
   (try clear hb2)
   (try clear hk)
   (try clear hi)
   refine hK.out _ _ trivial (fun hHeld => ?_)
   clear hK K
   refine norm_ (a' := ?_) ?_ ?_
   rotate_left
   ·show Act.put _ (some 31) _ = _
    simp only [Act.put, List.setIfInBounds_toArray, List.set_cons_zero, List.set_cons_succ, i64_w, i32_w]
    rfl
   refine pure_ (i := 15) (N := some 32) (v := ?_) (a' := ?_) #[true, true, true, true, true, true, true, true, true, true, true, true, true, true, true, true, true, true, false, false, true, true, true, true, true, true, false, false] rfl rfl (any_of HT_.out (by kernel_rfl)) (fun _ _ _ h => h) (Or.inl ⟨by rfl, ?_⟩) ?_ ?_
   rotate_left
   ·intro w'
    go_simp
    with_reducible rfl
   rotate_left
   ·simp only [Act.put, List.setIfInBounds_toArray, List.set_cons_zero, List.set_cons_succ, i64_w, i32_w]
    rfl
   exact norm_ (by first | (simp only [putAll, Act.put, List.setIfInBounds_toArray, List.set_cons_zero, List.set_cons_succ]; done) | (simp only [putAll, Act.put, List.setIfInBounds_toArray, List.set_cons_zero, List.set_cons_succ]; rfl)) (hJ1_2_6_10_14 (v107) _ ⟨(by (with_reducible repeat (first | apply Kd.R_alloc | apply Kd.R_drewN | apply Kd.R_drew)); exact HO108.out), (by repeat (first | (with_reducible first | exact HB.out | apply below_alloc | apply pw_below_drewN | apply below_drew1) | exact HB.out))⟩)
  intro hJ1_2_6_10
  refine join_ (σ := Value) 8 #[true, true, false, true, true, true, true, false, true, true, true, false, true, true, true, false, true, true, false, false, true, true, true, true, true, true, false, false] (fun s_ => [(18, s_), (23, .string t109), (27, .string t110), (31, .string t111)]) (fun s_ w' => (Kd.R (Kd.int .u8) 5 w' w.heap.size (fun _ => True) s_ y106) ∧ (Below w.heap.size w w')) ?_ ?_
  ·skip
   rintro v107 w25 ⟨h0_, h1_⟩
   have n0_ : Aside0 (Kd.R (Kd.int .u8) 5 w25 w.heap.size (fun _ => True) v107 y106) := ⟨h0_⟩
   have n1_ : Aside0 (Below w.heap.size w w25) := ⟨h1_⟩
   clear HB
   clear h0_ h1_
   have HO108 := n0_
   have HB := n1_
   clear n0_ n1_
   have hHeld := trivial
   refine norm_ (a' := ?_) ?_ ?_
   rotate_left
   ·simp only [putAll, Act.put, List.setIfInBounds_toArray, List.set_cons_zero, List.set_cons_succ]
    rfl
   refine two_ (i := 2) (j := 18) (Ni := some 19) (Nj := some 35) #[true, true, true, true, true, true, true, false, true, true, true, false, true, true, true, false, true, true, false, false, true, true, true, true, true, true, false, false] #[true, true, false, true, true, true, true, false, true, true, true, false, true, true, true, false, true, true, true, false, true, true, true, true, true, true, false, false] rfl rfl rfl rfl (two_of HT_.out (by kernel_rfl)) (by decide) (by decide) (fun K hK => ?_) (fun K hK => ?_)
   rotate_left
   ·skip
    refine goes_ Tryd.func21 (by kernel_rfl) rfl #[.int .u64 (IntKind.u64.wrap (ji6)), .int .i64 3] (by rfl) rfl rfl (by (try simp only [List.map_toArray, List.map_cons, List.map_nil]); first | done | (simp only [hji6]; rfl) | rfl | (simp only [List.length_drop, List.length_take]; rfl)) ?_
    with_reducible refine (laws_big.calls k (IntKind.u64.wrap (ji6)) 3 t112 _ A13.out).mono ?_
    rintro e w26 ⟨rfl, hb⟩
    refine ⟨_, rfl, ?_⟩
    have n0_ := Aside0.mk (Kd.R_below (by (with_reducible repeat (first | apply Kd.R_alloc | apply Kd.R_drewN | apply Kd.R_drew)); exact HO108.out) hb)
    have n1_ := Aside0.mk (below_step (by repeat (first | (with_reducible first | exact HB.out | apply below_alloc | apply pw_below_drewN | apply below_drew1) | exact HB.out)) hb)
    clear HO108
    clear HB
    have HO108 := n0_
    have HB := n1_
    clear n0_ n1_
    (try clear hb)
    (try clear hb2)
    (try clear hk)
    (try clear hi)
    refine hK.out _ _ trivial (fun hHeld => ?_)
    clear hK K
    refine norm_ (a' := ?_) ?_ ?_
    rotate_left
    ·show Act.put _ (some 35) _ = _
     simp only [Act.put, List.setIfInBounds_toArray, List.set_cons_zero, List.set_cons_succ, i64_w, i32_w]
     rfl
    exact norm_ (by first | (simp only [putAll, Act.put, List.setIfInBounds_toArray, List.set_cons_zero, List.set_cons_succ]; done) | (simp only [putAll, Act.put, List.setIfInBounds_toArray, List.set_cons_zero, List.set_cons_succ]; rfl)) (hJ1_6_10_14_18 (v107) _ ⟨(by (with_reducible repeat (first | apply Kd.R_alloc | apply Kd.R_drewN | apply Kd.R_drew)); exact HO108.out), (by repeat (first | (with_reducible first | exact HB.out | apply below_alloc | apply pw_below_drewN | apply below_drew1) | exact HB.out))⟩)
   skip
   have hcv26 := own_string (P := Tryd.prog) Tryd.underlying59 Tryd.underlying5 Tryd.underlying9 (Kd.own_of_R HO108.out)
   refine value_ (w1 := ?_) (v := ?_) (by rfl) rfl ?_ ?_
   rotate_left 2
   ·go_simp
    constructor
    ·rfl
    rfl
   clear hcv26
   refine hK.out _ _ trivial (fun hHeld => ?_)
   clear hK K
   refine norm_ (a' := ?_) ?_ ?_
   rotate_left
   ·show Act.put _ (some 19) _ = _
    simp only [Act.put, List.setIfInBounds_toArray, List.set_cons_zero, List.set_cons_succ, i64_w, i32_w]
    rfl
   refine pure_ (i := 7) (N := some 24) (v := ?_) (a' := ?_) #[true, true, true, true, true, true, true, true, true, true, true, false, true, true, true, false, true, true, false, false, true, true, true, true, true, true, false, false] rfl rfl (any_of HT_.out (by kernel_rfl)) (fun _ _ _ h => h) (Or.inl ⟨by rfl, ?_⟩) ?_ ?_
   rotate_left
   ·intro w'
    go_simp
    with_reducible rfl
   rotate_left
   ·simp only [Act.put, List.setIfInBounds_toArray, List.set_cons_zero, List.set_cons_succ, i64_w, i32_w]
    rfl
   refine pure_ (i := 11) (N := some 28) (v := ?_) (a' := ?_) #[true, true, true, true, true, true, true, true, true, true, true, true, true, true, true, false, true, true, false, false, true, true, true, true, true, true, false, false] rfl rfl (any_of HT_.out (by kernel_rfl)) (fun _ _ _ h => h) (Or.inl ⟨by rfl, ?_⟩) ?_ ?_
   rotate_left
   ·intro w'
    go_simp
    with_reducible rfl
   rotate_left
   ·simp only [Act.put, List.setIfInBounds_toArray, List.set_cons_zero, List.set_cons_succ, i64_w, i32_w]
    rfl
   refine pure_ (i := 15) (N := some 32) (v := ?_) (a' := ?_) #[true, true, true, true, true, true, true, true, true, true, true, true, true, true, true, true, true, true, false, false, true, true, true, true, true, true, false, false] rfl rfl (any_of HT_.out (by kernel_rfl)) (fun _ _ _ h => h) (Or.inl ⟨by rfl, ?_⟩) ?_ ?_
   rotate_left
   ·intro w'
    go_simp
    with_reducible rfl
   rotate_left
   ·simp only [Act.put, List.setIfInBounds_toArray, List.set_cons_zero, List.set_cons_succ, i64_w, i32_w]
    rfl
   exact norm_ (by first | (simp only [putAll, Act.put, List.setIfInBounds_toArray, List.set_cons_zero, List.set_cons_succ]; done) | (simp only [putAll, Act.put, List.setIfInBounds_toArray, List.set_cons_zero, List.set_cons_succ]; rfl)) (hJ1_2_6_10_14 (v107) _ ⟨(by (with_reducible repeat (first | apply Kd.R_alloc | apply Kd.R_drewN | apply Kd.R_drew)); exact HO108.out), (by repeat (first | (with_reducible first | exact HB.out | apply below_alloc | apply pw_below_drewN | apply below_drew1) | exact HB.out))⟩)
  intro hJ1_6_10_14
  refine join_ (σ := Unit) 8 #[true, false, false, true, true, true, true, false, true, true, true, false, true, true, true, false, true, true, true, false, true, true, true, true, true, true, false, false] (fun s_ => [(23, .string t109), (27, .string t110), (31, .string t111), (35, .string t112)]) (fun s_ w' => (Below w.heap.size w w')) ?_ ?_
  ·skip
   rintro _ w24 h0_
   have n0_ : Aside0 (Below w.heap.size w w24) := ⟨h0_⟩
   clear HB
   clear h0_
   have HB := n0_
   clear n0_
   have hHeld := trivial
   refine norm_ (a' := ?_) ?_ ?_
   rotate_left
   ·simp only [putAll, Act.put, List.setIfInBounds_toArray, List.set_cons_zero, List.set_cons_succ]
    rfl
   refine one_ (i := 1) (N := some 18) #[true, true, false, true, true, true, true, false, true, true, true, false, true, true, true, false, true, true, true, false, true, true, true, true, true, true, false, false] rfl rfl (one_of HT_.out (by kernel_rfl)) (by decide) (fun K hK => ?_)
   refine Kd.R_lit_step (Kd.int .u8) _ 5 ?hg (N := 18) ?hd (xs := ([a0] : List Int)) (inner := [.int .u8 a0]) (ok := fun _ => True) (okp := fun _ => True) ?hr ?hp (fun _ hk => hk) trivial (Below.refl _ _) (Nat.le_refl _) (by simp) ?_; (case hd => rfl); (case hg => rfl); (case hr => first | (go_simp; done) | (go_simp; rfl)); (case hp => exact (Reps.one (show Kd.M (Kd.int .u8) _ _ _ a0 [.int .u8 a0] from rfl) (Reps.none _ _)))
   intro v107 w25 ho26 hb hg_ hnew_
   clear hg_ hnew_
   (first | rw [← Ny106.out] at ho26 | (simp only [Int.reduceToNat] at ho26; rw [← Ny106.out] at ho26))
   have n0_ := Aside0.mk (Kd.R_lower ho26 (below_size (by repeat (first | (with_reducible first | exact HB.out | apply below_alloc | apply pw_below_drewN | apply below_drew1) | exact HB.out))))
   have n1_ := Aside0.mk (below_step (by repeat (first | (with_reducible first | exact HB.out | apply below_alloc | apply pw_below_drewN | apply below_drew1) | exact HB.out)) hb)
   clear HB
   have HO108 := n0_
   have HB := n1_
   clear n0_ n1_
   clear hb ho26
   refine hK.out _ _ trivial (fun hHeld => ?_)
   clear hK K
   refine norm_ (a' := ?_) ?_ ?_
   rotate_left
   ·show Act.put _ (some 18) _ = _
    simp only [Act.put, List.setIfInBounds_toArray, List.set_cons_zero, List.set_cons_succ, i64_w, i32_w]
    rfl
   exact norm_ (by first | (simp only [putAll, Act.put, List.setIfInBounds_toArray, List.set_cons_zero, List.set_cons_succ]; done) | (simp only [putAll, Act.put, List.setIfInBounds_toArray, List.set_cons_zero, List.set_cons_succ]; rfl)) (hJ1_6_10_14_18 (v107) _ ⟨(by (with_reducible repeat (first | apply Kd.R_alloc | apply Kd.R_drewN | apply Kd.R_drew)); exact HO108.out), (by repeat (first | (with_reducible first | exact HB.out | apply below_alloc | apply pw_below_drewN | apply below_drew1) | exact HB.out))⟩)
  intro hJ6_10_14_18
  refine join_ (σ := Value) 8 #[true, true, true, true, true, true, true, true, true, true, false, false, true, true, false, false, true, true, false, false, true, true, true, true, true, true, false, false] (fun s_ => [(18, s_), (19, .string (strOfNums y106)), (23, .string t109), (24, .string ((strOfNums y106) ++ t109))]) (fun s_ w' => (Kd.R (Kd.int .u8) 5 w' w.heap.size (fun _ => True) s_ y106) ∧ (Below w.heap.size w w')) ?_ ?_
  ·skip
   rintro v107 w24 ⟨h0_, h1_⟩
   have n0_ : Aside0 (Kd.R (Kd.int .u8) 5 w24 w.heap.size (fun _ => True) v107 y106) := ⟨h0_⟩
   have n1_ : Aside0 (Below w.heap.size w w24) := ⟨h1_⟩
   clear HB
   clear h0_ h1_
   have HO108 := n0_
   have HB := n1_
   clear n0_ n1_
   have hHeld := trivial
   refine norm_ (a' := ?_) ?_ ?_
   rotate_left
   ·simp only [putAll, Act.put, List.setIfInBounds_toArray, List.set_cons_zero, List.set_cons_succ]
    rfl
   refine one_ (i := 10) (N := some 27) #[true, true, true, true, true, true, true, true, true, true, true, false, true, true, false, false, true, true, false, false, true, true, true, true, true, true, false, false] rfl rfl (one_of HT_.out (by kernel_rfl)) (by decide) (fun K hK => ?_)
   refine goes_ Tryd.func21 (by kernel_rfl) rfl #[.int .u64 (IntKind.u64.wrap (a1)), .int .i64 2] (by rfl) rfl rfl (by (try simp only [List.map_toArray, List.map_cons, List.map_nil]); first | done | rfl | (simp only [List.length_drop, List.length_take]; rfl)) ?_
   with_reducible refine (laws_big.calls k (IntKind.u64.wrap (a1)) 2 t110 _ A9.out).mono ?_
   rintro e w25 ⟨rfl, hb⟩
   refine ⟨_, rfl, ?_⟩
   have n0_ := Aside0.mk (Kd.R_below (by (with_reducible repeat (first | apply Kd.R_alloc | apply Kd.R_drewN | apply Kd.R_drew)); exact HO108.out) hb)
   have n1_ := Aside0.mk (below_step (by repeat (first | (with_reducible first | exact HB.out | apply below_alloc | apply pw_below_drewN | apply below_drew1) | exact HB.out)) hb)
   clear HO108
   clear HB
   have HO108 := n0_
   have HB := n1_
   clear n0_ n1_
   (try clear hb)
   (try clear hb2)
   (try clear hk)
   (try clear hi)
   refine hK.out _ _ trivial (fun hHeld => ?_)
   clear hK K
   refine norm_ (a' := ?_) ?_ ?_
   rotate_left
   ·show Act.put _ (some 27) _ = _
    simp only [Act.put, List.setIfInBounds_toArray, List.set_cons_zero, List.set_cons_succ, i64_w, i32_w]
    rfl
   refine pure_ (i := 11) (N := some 28) (v := ?_) (a' := ?_) #[true, true, true, true, true, true, true, true, true, true, true, true, true, true, false, false, true, true, false, false, true, true, true, true, true, true, false, false] rfl rfl (any_of HT_.out (by kernel_rfl)) (fun _ _ _ h => h) (Or.inl ⟨by rfl, ?_⟩) ?_ ?_
   rotate_left
   ·intro w'
    go_simp
    with_reducible rfl
   rotate_left
   ·simp only [Act.put, List.setIfInBounds_toArray, List.set_cons_zero, List.set_cons_succ, i64_w, i32_w]
    rfl
   exact norm_ (by first | (simp only [putAll, Act.put, List.setIfInBounds_toArray, List.set_cons_zero, List.set_cons_succ]; done) | (simp only [putAll, Act.put, List.setIfInBounds_toArray, List.set_cons_zero, List.set_cons_succ]; rfl)) (hJ1_2_6_10 (v107) _ ⟨(by (with_reducible repeat (first | apply Kd.R_alloc | apply Kd.R_drewN | apply Kd.R_drew)); exact HO108.out), (by repeat (first | (with_reducible first | exact HB.out | apply below_alloc | apply pw_below_drewN | apply below_drew1) | exact HB.out))⟩)
  intro hJ1_2_6
  refine join_ (σ := Value) 9 #[true, true, false, true, true, true, true, false, true, true, true, false, true, true, false, false, true, true, false, false, true, true, true, true, true, true, false, false] (fun s_ => [(18, s_), (23, .string t109), (27, .string t110)]) (fun s_ w' => (Kd.R (Kd.int .u8) 5 w' w.heap.size (fun _ => True) s_ y106) ∧ (Below w.heap.size w w')) ?_ ?_
  ·skip
   rintro v107 w24 ⟨h0_, h1_⟩
   have n0_ : Aside0 (Kd.R (Kd.int .u8) 5 w24 w.heap.size (fun _ => True) v107 y106) := ⟨h0_⟩
   have n1_ : Aside0 (Below w.heap.size w w24) := ⟨h1_⟩
   clear HB
   clear h0_ h1_
   have HO108 := n0_
   have HB := n1_
   clear n0_ n1_
   have hHeld := trivial
   refine norm_ (a' := ?_) ?_ ?_
   rotate_left
   ·simp only [putAll, Act.put, List.setIfInBounds_toArray, List.set_cons_zero, List.set_cons_succ]
    rfl
   refine two_ (i := 2) (j := 14) (Ni := some 19) (Nj := some 31) #[true, true, true, true, true, true, true, false, true, true, true, false, true, true, false, false, true, true, false, false, true, true, true, true, true, true, false, false] #[true, true, false, true, true, true, true, false, true, true, true, false, true, true, true, false, true, true, false, false, true, true, true, true, true, true, false, false] rfl rfl rfl rfl (two_of HT_.out (by kernel_rfl)) (by decide) (by decide) (fun K hK => ?_) (fun K hK => ?_)
   rotate_left
   ·skip
    refine goes_ Tryd.func21 (by kernel_rfl) rfl #[.int .u64 (IntKind.u64.wrap (a3)), .int .i64 3] (by rfl) rfl rfl (by (try simp only [List.map_toArray, List.map_cons, List.map_nil]); first | done | rfl | (simp only [List.length_drop, List.length_take]; rfl)) ?_
    with_reducible refine (laws_big.calls k (IntKind.u64.wrap (a3)) 3 t111 _ A11.out).mono ?_
    rintro e w25 ⟨rfl, hb⟩
    refine ⟨_, rfl, ?_⟩
    have n0_ := Aside0.mk (Kd.R_below (by (with_reducible repeat (first | apply Kd.R_alloc | apply Kd.R_drewN | apply Kd.R_drew)); exact HO108.out) hb)
    have n1_ := Aside0.mk (below_step (by repeat (first | (with_reducible first | exact HB.out | apply below_alloc | apply pw_below_drewN | apply below_drew1) | exact HB.out)) hb)
    clear HO108
    clear HB
    have HO108 := n0_
    have HB := n1_
    clear n0_ n1_
    (try clear hb)
    (try clear hb2)
    (try clear hk)
    (try clear hi)
    refine hK.out _ _ trivial (fun hHeld => ?_)
    clear hK K
    refine norm_ (a' := ?_) ?_ ?_
    rotate_left
    ·show Act.put _ (some 31) _ = _
     simp only [Act.put, List.setIfInBounds_toArray, List.set_cons_zero, List.set_cons_succ, i64_w, i32_w]
     rfl
    exact norm_ (by first | (simp only [putAll, Act.put, List.setIfInBounds_toArray, List.set_cons_zero, List.set_cons_succ]; done) | (simp only [putAll, Act.put, List.setIfInBounds_toArray, List.set_cons_zero, List.set_cons_succ]; rfl)) (hJ1_6_10_14 (v107) _ ⟨(by (with_reducible repeat (first | apply Kd.R_alloc | apply Kd.R_drewN | apply Kd.R_drew)); exact HO108.out), (by repeat (first | (with_reducible first | exact HB.out | apply below_alloc | apply pw_below_drewN | apply below_drew1) | exact HB.out))⟩)
   skip
   have hcv25 := own_string (P := Tryd.prog) Tryd.underlying59 Tryd.underlying5 Tryd.underlying9 (Kd.own_of_R HO108.out)
   refine value_ (w1 := ?_) (v := ?_) (by rfl) rfl ?_ ?_
   rotate_left 2
   ·go_simp
    constructor
    ·rfl
    rfl
   clear hcv25
   refine hK.out _ _ trivial (fun hHeld => ?_)
   clear hK K
   refine norm_ (a' := ?_) ?_ ?_
   rotate_left
   ·show Act.put _ (some 19) _ = _
    simp only [Act.put, List.setIfInBounds_toArray, List.set_cons_zero, List.set_cons_succ, i64_w, i32_w]
    rfl
   refine pure_ (i := 7) (N := some 24) (v := ?_) (a' := ?_) #[true, true, true, true, true, true, true, true, true, true, true, false, true, true, false, false, true, true, false, false, true, true, true, true, true, true, false, false] rfl rfl (any_of HT_.out (by kernel_rfl)) (fun _ _ _ h => h) (Or.inl ⟨by rfl, ?_⟩) ?_ ?_
   rotate_left
   ·intro w'
    go_simp
    with_reducible rfl
   rotate_left
   ·simp only [Act.put, List.setIfInBounds_toArray, List.set_cons_zero, List.set_cons_succ, i64_w, i32_w]
    rfl
   refine pure_ (i := 11) (N := some 28) (v := ?_) (a' := ?_) #[true, true, true, true, true, true, true, true, true, true, true, true, true, true, false, false, true, true, false, false, true, true, true, true, true, true, false, false] rfl rfl (any_of HT_.out (by kernel_rfl)) (fun _ _ _ h => h) (Or.inl ⟨by rfl, ?_⟩) ?_ ?_
   rotate_left
   ·intro w'
    go_simp
    with_reducible rfl
   rotate_left
   ·simp only [Act.put, List.setIfInBounds_toArray, List.set_cons_zero, List.set_cons_succ, i64_w, i32_w]
    rfl
   exact norm_ (by first | (simp only [putAll, Act.put, List.setIfInBounds_toArray, List.set_cons_zero, List.set_cons_succ]; done) | (simp only [putAll, Act.put, List.setIfInBounds_toArray, List.set_cons_zero, List.set_cons_succ]; rfl)) (hJ1_2_6_10 (v107) _ ⟨(by (with_reducible repeat (first | apply Kd.R_alloc | apply Kd.R_drewN | apply Kd.R_drew)); exact HO108.out), (by repeat (first | (with_reducible first | exact HB.out | apply below_alloc | apply pw_below_drewN | apply below_drew1) | exact HB.out))⟩)
  intro hJ1_6_10
  refine join_ (σ := Unit) 9 #[true, false, false, true, true, true, true, false, true, true, true, false, true, true, true, false, true, true, false, false, true, true, true, true, true, true, false, false] (fun s_ => [(23, .string t109), (27, .string t110), (31, .string t111)]) (fun s_ w' => (Below w.heap.size w w')) ?_ ?_
  ·skip
   rintro _ w23 h0_
   have n0_ : Aside0 (Below w.heap.size w w23) := ⟨h0_⟩
   clear HB
   clear h0_
   have HB := n0_
   clear n0_
   have hHeld := trivial
   refine norm_ (a' := ?_) ?_ ?_
   rotate_left
   ·simp only [putAll, Act.put, List.setIfInBounds_toArray, List.set_cons_zero, List.set_cons_succ]
    rfl
   refine two_ (i := 1) (j := 18) (Ni := some 18) (Nj := some 35) #[true, true, false, true, true, true, true, false, true, true, true, false, true, true, true, false, true, true, false, false, true, true, true, true, true, true, false, false] #[true, false, false, true, true, true, true, false, true, true, true, false, true, true, true, false, true, true, true, false, true, true, true, true, true, true, false, false] rfl rfl rfl rfl (two_of HT_.out (by kernel_rfl)) (by decide) (by decide) (fun K hK => ?_) (fun K hK => ?_)
   rotate_left
   ·skip
    refine goes_ Tryd.func21 (by kernel_rfl) rfl #[.int .u64 (IntKind.u64.wrap (ji6)), .int .i64 3] (by rfl) rfl rfl (by (try simp only [List.map_toArray, List.map_cons, List.map_nil]); first | done | (simp only [hji6]; rfl) | rfl | (simp only [List.length_drop, List.length_take]; rfl)) ?_
    with_reducible refine (laws_big.calls k (IntKind.u64.wrap (ji6)) 3 t112 _ A13.out).mono ?_
    rintro e w24 ⟨rfl, hb⟩
    refine ⟨_, rfl, ?_⟩
    have n0_ := Aside0.mk (below_step (by repeat (first | (with_reducible first | exact HB.out | apply below_alloc | apply pw_below_drewN | apply below_drew1) | exact HB.out)) hb)
    clear HB
    have HB := n0_
    clear n0_
    (try clear hb)
    (try clear hb2)
    (try clear hk)
    (try clear hi)
    refine hK.out _ _ trivial (fun hHeld => ?_)
    clear hK K
    refine norm_ (a' := ?_) ?_ ?_
    rotate_left
    ·show Act.put _ (some 35) _ = _
     simp only [Act.put, List.setIfInBounds_toArray, List.set_cons_zero, List.set_cons_succ, i64_w, i32_w]
     rfl
    exact norm_ (by first | (simp only [putAll, Act.put, List.setIfInBounds_toArray, List.set_cons_zero, List.set_cons_succ]; done) | (simp only [putAll, Act.put, List.setIfInBounds_toArray, List.set_cons_zero, List.set_cons_succ]; rfl)) (hJ6_10_14_18 () _ (by repeat (first | (with_reducible first | exact HB.out | apply below_alloc | apply pw_below_drewN | apply below_drew1) | exact HB.out)))
   skip
   refine Kd.R_lit_step (Kd.int .u8) _ 5 ?hg (N := 18) ?hd (xs := ([a0] : List Int)) (inner := [.int .u8 a0]) (ok := fun _ => True) (okp := fun _ => True) ?hr ?hp (fun _ hk => hk) trivial (Below.refl _ _) (Nat.le_refl _) (by simp) ?_; (case hd => rfl); (case hg => rfl); (case hr => first | (go_simp; done) | (go_simp; rfl)); (case hp => exact (Reps.one (show Kd.M (Kd.int .u8) _ _ _ a0 [.int .u8 a0] from rfl) (Reps.none _ _)))
   intro v107 w24 ho25 hb hg_ hnew_
   clear hg_ hnew_
   (first | rw [← Ny106.out] at ho25 | (simp only [Int.reduceToNat] at ho25; rw [← Ny106.out] at ho25))
   have n0_ := Aside0.mk (Kd.R_lower ho25 (below_size (by repeat (first | (with_reducible first | exact HB.out | apply below_alloc | apply pw_below_drewN | apply below_drew1) | exact HB.out))))
   have n1_ := Aside0.mk (below_step (by repeat (first | (with_reducible first | exact HB.out | apply below_alloc | apply pw_below_drewN | apply below_drew1) | exact HB.out)) hb)
   clear HB
   have HO108 := n0_
   have HB := n1_
   clear n0_ n1_
   clear hb ho25
   refine hK.out _ _ trivial (fun hHeld => ?_)
   clear hK K
   refine norm_ (a' := ?_) ?_ ?_
   rotate_left
   ·show Act.put _ (some 18) _ = _
    simp only [Act.put, List.setIfInBounds_toArray, List.set_cons_zero, List.set_cons_succ, i64_w, i32_w]
    rfl
   exact norm_ (by first | (simp only [putAll, Act.put, List.setIfInBounds_toArray, List.set_cons_zero, List.set_cons_succ]; done) | (simp only [putAll, Act.put, List.setIfInBounds_toArray, List.set_cons_zero, List.set_cons_succ]; rfl)) (hJ1_6_10_14 (v107) _ ⟨(by (with_reducible repeat (first | apply Kd.R_alloc | apply Kd.R_drewN | apply Kd.R_drew)); exact HO108.out), (by repeat (first | (with_reducible first | exact HB.out | apply below_alloc | apply pw_below_drewN | apply below_drew1) | exact HB.out))⟩)
  intro hJ6_10_14
  refine join_ (σ := Value) 10 #[true, true, true, true, true, true, false, false, true, true, false, false, true, true, false, false, true, true, false, false, true, true, true, true, true, true, false, false] (fun s_ => [(18, s_), (19, .string (strOfNums y106))]) (fun s_ w' => (Kd.R (Kd.int .u8) 5 w' w.heap.size (fun _ => True) s_ y106) ∧ (Below w.heap.size w w')) ?_ ?_
  ·skip
   rintro v107 w23 ⟨h0_, h1_⟩
   have n0_ : Aside0 (Kd.R (Kd.int .u8) 5 w23 w.heap.size (fun _ => True) v107 y106) := ⟨h0_⟩
   have n1_ : Aside0 (Below w.heap.size w w23) := ⟨h1_⟩
   clear HB
   clear h0_ h1_
   have HO108 := n0_
   have HB := n1_
   clear n0_ n1_
   have hHeld := trivial
   refine norm_ (a' := ?_) ?_ ?_
   rotate_left
   ·simp only [putAll, Act.put, List.setIfInBounds_toArray, List.set_cons_zero, List.set_cons_succ]
    rfl
   refine one_ (i := 6) (N := some 23) #[true, true, true, true, true, true, true, false, true, true, false, false, true, true, false, false, true, true, false, false, true, true, true, true, true, true, false, false] rfl rfl (one_of HT_.out (by kernel_rfl)) (by decide) (fun K hK => ?_)
   refine goes_ Tryd.func21 (by kernel_rfl) rfl #[.int .u64 (IntKind.u64.wrap ((a2.size : Int))), .int .i64 3] (by rfl) rfl rfl (by (try simp only [List.map_toArray, List.map_cons, List.map_nil]); first | done | rfl | (simp only [List.length_drop, List.length_take]; rfl)) ?_
   with_reducible refine (laws_big.calls k (IntKind.u64.wrap ((a2.size : Int))) 3 t109 _ A7.out).mono ?_
   rintro e w24 ⟨rfl, hb⟩
   refine ⟨_, rfl, ?_⟩
   have n0_ := Aside0.mk (Kd.R_below (by (with_reducible repeat (first | apply Kd.R_alloc | apply Kd.R_drewN | apply Kd.R_drew)); exact HO108.out) hb)
   have n1_ := Aside0.mk (below_step (by repeat (first | (with_reducible first | exact HB.out | apply below_alloc | apply pw_below_drewN | apply below_drew1) | exact HB.out)) hb)
   clear HO108
   clear HB
   have HO108 := n0_
   have HB := n1_
   clear n0_ n1_
   (try clear hb)
   (try clear hb2)
   (try clear hk)
   (try clear hi)
   refine hK.out _ _ trivial (fun hHeld => ?_)
   clear hK K
   refine norm_ (a' := ?_) ?_ ?_
   rotate_left
   ·show Act.put _ (some 23) _ = _
    simp only [Act.put, List.setIfInBounds_toArray, List.set_cons_zero, List.set_cons_succ, i64_w, i32_w]
    rfl
   refine pure_ (i := 7) (N := some 24) (v := ?_) (a' := ?_) #[true, true, true, true, true, true, true, true, true, true, false, false, true, true, false, false, true, true, false, false, true, true, true, true, true, true, false, false] rfl rfl (any_of HT_.out (by kernel_rfl)) (fun _ _ _ h => h) (Or.inl ⟨by rfl, ?_⟩) ?_ ?_
   rotate_left
   ·intro w'
    go_simp
    with_reducible rfl
   rotate_left
   ·simp only [Act.put, List.setIfInBounds_toArray, List.set_cons_zero, List.set_cons_succ, i64_w, i32_w]
    rfl
   exact norm_ (by first | (simp only [putAll, Act.put, List.setIfInBounds_toArray, List.set_cons_zero, List.set_cons_succ]; done) | (simp only [putAll, Act.put, List.setIfInBounds_toArray, List.set_cons_zero, List.set_cons_succ]; rfl)) (hJ1_2_6 (v107) _ ⟨(by (with_reducible repeat (first | apply Kd.R_alloc | apply Kd.R_drewN | apply Kd.R_drew)); exact HO108.out), (by repeat (first | (with_reducible first | exact HB.out | apply below_alloc | apply pw_below_drewN | apply below_drew1) | exact HB.out))⟩)
  intro hJ1_2
  refine join_ (σ := Value) 10 #[true, true, false, true, true, true, true, false, true, true, false, false, true, true, false, false, true, true, false, false, true, true, true, true, true, true, false, false] (fun s_ => [(18, s_), (23, .string t109)]) (fun s_ w' => (Kd.R (Kd.int .u8) 5 w' w.heap.size (fun _ => True) s_ y106) ∧ (Below w.heap.size w w')) ?_ ?_
  ·skip
   rintro v107 w23 ⟨h0_, h1_⟩
   have n0_ : Aside0 (Kd.R (Kd.int .u8) 5 w23 w.heap.size (fun _ => True) v107 y106) := ⟨h0_⟩
   have n1_ : Aside0 (Below w.heap.size w w23) := ⟨h1_⟩
   clear HB
   clear h0_ h1_
   have HO108 := n0_
   have HB := n1_
   clear n0_ n1_
   have hHeld := trivial
   refine norm_ (a' := ?_) ?_ ?_
   rotate_left
   ·simp only [putAll, Act.put, List.setIfInBounds_toArray, List.set_cons_zero, List.set_cons_succ]
    rfl
   refine two_ (i := 2) (j := 10) (Ni := some 19) (Nj := some 27) #[true, true, true, true, true, true, true, false, true, true, false, false, true, true, false, false, true, true, false, false, true, true, true, true, true, true, false, false] #[true, true, false, true, true, true, true, false, true, true, true, false, true, true, false, false, true, true, false, false, true, true, true, true, true, true, false, false] rfl rfl rfl rfl (two_of HT_.out (by kernel_rfl)) (by decide) (by decide) (fun K hK => ?_) (fun K hK => ?_)
   ·skip
    have hcv24 := own_string (P := Tryd.prog) Tryd.underlying59 Tryd.underlying5 Tryd.underlying9 (Kd.own_of_R HO108.out)
    refine value_ (w1 := ?_) (v := ?_) (by rfl) rfl ?_ ?_
    rotate_left 2
    ·go_simp
     constructor
     ·rfl
     rfl
    clear hcv24
    refine hK.out _ _ trivial (fun hHeld => ?_)
    clear hK K
    refine norm_ (a' := ?_) ?_ ?_
    rotate_left
    ·show Act.put _ (some 19) _ = _
     simp only [Act.put, List.setIfInBounds_toArray, List.set_cons_zero, List.set_cons_succ, i64_w, i32_w]
     rfl
    refine pure_ (i := 7) (N := some 24) (v := ?_) (a' := ?_) #[true, true, true, true, true, true, true, true, true, true, false, false, true, true, false, false, true, true, false, false, true, true, true, true, true, true, false, false] rfl rfl (any_of HT_.out (by kernel_rfl)) (fun _ _ _ h => h) (Or.inl ⟨by rfl, ?_⟩) ?_ ?_
    rotate_left
    ·intro w'
     go_simp
     with_reducible rfl
    rotate_left
    ·simp only [Act.put, List.setIfInBounds_toArray, List.set_cons_zero, List.set_cons_succ, i64_w, i32_w]
     rfl
    exact norm_ (by first | (simp only [putAll, Act.put, List.setIfInBounds_toArray, List.set_cons_zero, List.set_cons_succ]; done) | (simp only [putAll, Act.put, List.setIfInBounds_toArray, List.set_cons_zero, List.set_cons_succ]; rfl)) (hJ1_2_6 (v107) _ ⟨(by (with_reducible repeat (first | apply Kd.R_alloc | apply Kd.R_drewN | apply Kd.R_drew)); exact HO108.out), (by repeat (first | (with_reducible first | exact HB.out | apply below_alloc | apply pw_below_drewN | apply below_drew1) | exact HB.out))⟩)
   skip
   refine goes_ Tryd.func21 (by kernel_rfl) rfl #[.int .u64 (IntKind.u64.wrap (a1)), .int .i64 2] (by rfl) rfl rfl (by (try simp only [List.map_toArray, List.map_cons, List.map_nil]); first | done | rfl | (simp only [List.length_drop, List.length_take]; rfl)) ?_
   with_reducible refine (laws_big.calls k (IntKind.u64.wrap (a1)) 2 t110 _ A9.out).mono ?_
   rintro e w24 ⟨rfl, hb⟩
   refine ⟨_, rfl, ?_⟩
   have n0_ := Aside0.mk (Kd.R_below (by (with_reducible repeat (first | apply Kd.R_alloc | apply Kd.R_drewN | apply Kd.R_drew)); exact HO108.out) hb)
   have n1_ := Aside0.mk (below_step (by repeat (first | (with_reducible first | exact HB.out | apply below_alloc | apply pw_below_drewN | apply below_drew1) | exact HB.out)) hb)
   clear HO108
   clear HB
   have HO108 := n0_
   have HB := n1_
   clear n0_ n1_
   (try clear hb)
   (try clear hb2)
   (try clear hk)
   (try clear hi)
   refine hK.out _ _ trivial (fun hHeld => ?_)
   clear hK K
   refine norm_ (a' := ?_) ?_ ?_
   rotate_left
   ·show Act.put _ (some 27) _ = _
    simp only [Act.put, List.setIfInBounds_toArray, List.set_cons_zero, List.set_cons_succ, i64_w, i32_w]
    rfl
   exact norm_ (by first | (simp only [putAll, Act.put, List.setIfInBounds_toArray, List.set_cons_zero, List.set_cons_succ]; done) | (simp only [putAll, Act.put, List.setIfInBounds_toArray, List.set_cons_zero, List.set_cons_succ]; rfl)) (hJ1_6_10 (v107) _ ⟨(by (with_reducible repeat (first | apply Kd.R_alloc | apply Kd.R_drewN | apply Kd.R_drew)); exact HO108.out), (by repeat (first | (with_reducible first | exact HB.out | apply below_alloc | apply pw_below_drewN | apply below_drew1) | exact HB.out))⟩)
  intro hJ1_6
  refine join_ (σ := Unit) 10 #[true, false, false, true, true, true, true, false, true, true, true, false, true, true, false, false, true, true, false, false, true, true, true, true, true, true, false, false] (fun s_ => [(23, .string t109), (27, .string t110)]) (fun s_ w' => (Below w.heap.size w w')) ?_ ?_
  ·skip
   rintro _ w22 h0_
   have n0_ : Aside0 (Below w.heap.size w w22) := ⟨h0_⟩
   clear HB
   clear h0_
   have HB := n0_
   clear n0_
   have hHeld := trivial
   refine norm_ (a' := ?_) ?_ ?_
   rotate_left
   ·simp only [putAll, Act.put, List.setIfInBounds_toArray, List.set_cons_zero, List.set_cons_succ]
    rfl
   refine two_ (i := 1) (j := 14) (Ni := some 18) (Nj := some 31) #[true, true, false, true, true, true, true, false, true, true, true, false, true, true, false, false, true, true, false, false, true, true, true, true, true, true, false, false] #[true, false, false, true, true, true, true, false, true, true, true, false, true, true, true, false, true, true, false, false, true, true, true, true, true, true, false, false] rfl rfl rfl rfl (two_of HT_.out (by kernel_rfl)) (by decide) (by decide) (fun K hK => ?_) (fun K hK => ?_)
   rotate_left
   ·skip
    refine goes_ Tryd.func21 (by kernel_rfl) rfl #[.int .u64 (IntKind.u64.wrap (a3)), .int .i64 3] (by rfl) rfl rfl (by (try simp only [List.map_toArray, List.map_cons, List.map_nil]); first | done | rfl | (simp only [List.length_drop, List.length_take]; rfl)) ?_
    with_reducible refine (laws_big.calls k (IntKind.u64.wrap (a3)) 3 t111 _ A11.out).mono ?_
    rintro e w23 ⟨rfl, hb⟩
    refine ⟨_, rfl, ?_⟩
    have n0_ := Aside0.mk (below_step (by repeat (first | (with_reducible first | exact HB.out | apply below_alloc | apply pw_below_drewN | apply below_drew1) | exact HB.out)) hb)
    clear HB
    have HB := n0_
    clear n0_
    (try clear hb)
    (try clear hb2)
    (try clear hk)
    (try clear hi)
    refine hK.out _ _ trivial (fun hHeld => ?_)
    clear hK K
    refine norm_ (a' := ?_) ?_ ?_
    rotate_left
    ·show Act.put _ (some 31) _ = _
     simp only [Act.put, List.setIfInBounds_toArray, List.set_cons_zero, List.set_cons_succ, i64_w, i32_w]
     rfl
    exact norm_ (by first | (simp only [putAll, Act.put, List.setIfInBounds_toArray, List.set_cons_zero, List.set_cons_succ]; done) | (simp only [putAll, Act.put, List.setIfInBounds_toArray, List.set_cons_zero, List.set_cons_succ]; rfl)) (hJ6_10_14 () _ (by repeat (first | (with_reducible first | exact HB.out | apply below_alloc | apply pw_below_drewN | apply below_drew1) | exact HB.out)))
   skip
   refine Kd.R_lit_step (Kd.int .u8) _ 5 ?hg (N := 18) ?hd (xs := ([a0] : List Int)) (inner := [.int .u8 a0]) (ok := fun _ => True) (okp := fun _ => True) ?hr ?hp (fun _ hk => hk) trivial (Below.refl _ _) (Nat.le_refl _) (by simp) ?_; (case hd => rfl); (case hg => rfl); (case hr => first | (go_simp; done) | (go_simp; rfl)); (case hp => exact (Reps.one (show Kd.M (Kd.int .u8) _ _ _ a0 [.int .u8 a0] from rfl) (Reps.none _ _)))
   intro v107 w23 ho24 hb hg_ hnew_
   clear hg_ hnew_
   (first | rw [← Ny106.out] at ho24 | (simp only [Int.reduceToNat] at ho24; rw [← Ny106.out] at ho24))
   have n0_ := Aside0.mk (Kd.R_lower ho24 (below_size (by repeat (first | (with_reducible first | exact HB.out | apply below_alloc | apply pw_below_drewN | apply below_drew1) | exact HB.out))))
   have n1_ := Aside0.mk (below_step (by repeat (first | (with_reducible first | exact HB.out | apply below_alloc | apply pw_below_drewN | apply below_drew1) | exact HB.out)) hb)
   clear HB
   have HO108 := n0_
   have HB := n1_
   clear n0_ n1_
   clear hb ho24
   refine hK.out _ _ trivial (fun hHeld => ?_)
   clear hK K
   refine norm_ (a' := ?_) ?_ ?_
   rotate_left
   ·show Act.put _ (some 18) _ = _
    simp only [Act.put, List.setIfInBounds_toArray, List.set_cons_zero, List.set_cons_succ, i64_w, i32_w]
    rfl
   exact norm_ (by first | (simp only [putAll, Act.put, List.setIfInBounds_toArray, List.set_cons_zero, List.set_cons_succ]; done) | (simp only [putAll, Act.put, List.setIfInBounds_toArray, List.set_cons_zero, List.set_cons_succ]; rfl)) (hJ1_6_10 (v107) _ ⟨(by (with_reducible repeat (first | apply Kd.R_alloc | apply Kd.R_drewN | apply Kd.R_drew)); exact HO108.out), (by repeat (first | (with_reducible first | exact HB.out | apply below_alloc | apply pw_below_drewN | apply below_drew1) | exact HB.out))⟩)
  intro hJ6_10
  refine join_ (σ := Value) 11 #[true, true, false, true, true, true, false, false, true, true, false, false, true, true, false, false, true, true, false, false, true, true, true, true, true, true, false, false] (fun s_ => [(18, s_)]) (fun s_ w' => (Kd.R (Kd.int .u8) 5 w' w.heap.size (fun _ => True) s_ y106) ∧ (Below w.heap.size w w')) ?_ ?_
  ·skip
   rintro v107 w22 ⟨h0_, h1_⟩
   have n0_ : Aside0 (Kd.R (Kd.int .u8) 5 w22 w.heap.size (fun _ => True) v107 y106) := ⟨h0_⟩
   have n1_ : Aside0 (Below w.heap.size w w22) := ⟨h1_⟩
   clear HB
   clear h0_ h1_
   have HO108 := n0_
   have HB := n1_
   clear n0_ n1_
   have hHeld := trivial
   refine norm_ (a' := ?_) ?_ ?_
   rotate_left
   ·simp only [putAll, Act.put, List.setIfInBounds_toArray, List.set_cons_zero, List.set_cons_succ]
    rfl
   refine two_ (i := 2) (j := 6) (Ni := some 19) (Nj := some 23) #[true, true, true, true, true, true, false, false, true, true, false, false, true, true, false, false, true, true, false, false, true, true, true, true, true, true, false, false] #[true, true, false, true, true, true, true, false, true, true, false, false, true, true, false, false, true, true, false, false, true, true, true, true, true, true, false, false] rfl rfl rfl rfl (two_of HT_.out (by kernel_rfl)) (by decide) (by decide) (fun K hK => ?_) (fun K hK => ?_)
   ·skip
    have hcv23 := own_string (P := Tryd.prog) Tryd.underlying59 Tryd.underlying5 Tryd.underlying9 (Kd.own_of_R HO108.out)
    refine value_ (w1 := ?_) (v := ?_) (by rfl) rfl ?_ ?_
    rotate_left 2
    ·go_simp
     constructor
     ·rfl
     rfl
    clear hcv23
    refine hK.out _ _ trivial (fun hHeld => ?_)
    clear hK K
    refine norm_ (a' := ?_) ?_ ?_
    rotate_left
    ·show Act.put _ (some 19) _ = _
     simp only [Act.put, List.setIfInBounds_toArray, List.set_cons_zero, List.set_cons_succ, i64_w, i32_w]
     rfl
    exact norm_ (by first | (simp only [putAll, Act.put, List.setIfInBounds_toArray, List.set_cons_zero, List.set_cons_succ]; done) | (simp only [putAll, Act.put, List.setIfInBounds_toArray, List.set_cons_zero, List.set_cons_succ]; rfl)) (hJ1_2 (v107) _ ⟨(by (with_reducible repeat (first | apply Kd.R_alloc | apply Kd.R_drewN | apply Kd.R_drew)); exact HO108.out), (by repeat (first | (with_reducible first | exact HB.out | apply below_alloc | apply pw_below_drewN | apply below_drew1) | exact HB.out))⟩)
   skip
   refine goes_ Tryd.func21 (by kernel_rfl) rfl #[.int .u64 (IntKind.u64.wrap ((a2.size : Int))), .int .i64 3] (by rfl) rfl rfl (by (try simp only [List.map_toArray, List.map_cons, List.map_nil]); first | done | rfl | (simp only [List.length_drop, List.length_take]; rfl)) ?_
   with_reducible refine (laws_big.calls k (IntKind.u64.wrap ((a2.size : Int))) 3 t109 _ A7.out).mono ?_
   rintro e w23 ⟨rfl, hb⟩
   refine ⟨_, rfl, ?_⟩
   have n0_ := Aside0.mk (Kd.R_below (by (with_reducible repeat (first | apply Kd.R_alloc | apply Kd.R_drewN | apply Kd.R_drew)); exact HO108.out) hb)
   have n1_ := Aside0.mk (below_step (by repeat (first | (with_reducible first | exact HB.out | apply below_alloc | apply pw_below_drewN | apply below_drew1) | exact HB.out)) hb)
   clear HO108
   clear HB
   have HO108 := n0_
   have HB := n1_
   clear n0_ n1_
   (try clear hb)
   (try clear hb2)
   (try clear hk)
   (try clear hi)
   refine hK.out _ _ trivial (fun hHeld => ?_)
   clear hK K
   refine norm_ (a' := ?_) ?_ ?_
   rotate_left
   ·show Act.put _ (some 23) _ = _
    simp only [Act.put, List.setIfInBounds_toArray, List.set_cons_zero, List.set_cons_succ, i64_w, i32_w]
    rfl
   exact norm_ (by first | (simp only [putAll, Act.put, List.setIfInBounds_toArray, List.set_cons_zero, List.set_cons_succ]; done) | (simp only [putAll, Act.put, List.setIfInBounds_toArray, List.set_cons_zero, List.set_cons_succ]; rfl)) (hJ1_6 (v107) _ ⟨(by (with_reducible repeat (first | apply Kd.R_alloc | apply Kd.R_drewN | apply Kd.R_drew)); exact HO108.out), (by repeat (first | (with_reducible first | exact HB.out | apply below_alloc | apply pw_below_drewN | apply below_drew1) | exact HB.out))⟩)
  intro hJ1
  refine join_ (σ := Unit) 11 #[true, false, false, true, true, true, true, false, true, true, false, false, true, true, false, false, true, true, false, false, true, true, true, true, true, true, false, false] (fun s_ => [(23, .string t109)]) (fun s_ w' => (Below w.heap.size w w')) ?_ ?_
  rotate_left
  ·intro hJ6
   refine two_ (i := 1) (j := 6) (Ni := some 18) (Nj := some 23) #[true, true, false, true, true, true, false, false, true, true, false, false, true, true, false, false, true, true, false, false, true, true, true, true, true, true, false, false] #[true, false, false, true, true, true, true, false, true, true, false, false, true, true, false, false, true, true, false, false, true, true, true, true, true, true, false, false] rfl rfl rfl rfl (two_of HT_.out (by kernel_rfl)) (by decide) (by decide) (fun K hK => ?_) (fun K hK => ?_)
   rotate_left
   ·skip
    refine goes_ Tryd.func21 (by kernel_rfl) rfl #[.int .u64 (IntKind.u64.wrap ((a2.size : Int))), .int .i64 3] (by rfl) rfl rfl (by (try simp only [List.map_toArray, List.map_cons, List.map_nil]); first | done | rfl | (simp only [List.length_drop, List.length_take]; rfl)) ?_
    with_reducible refine (laws_big.calls k (IntKind.u64.wrap ((a2.size : Int))) 3 t109 _ A7.out).mono ?_
    rintro e w20 ⟨rfl, hb⟩
    refine ⟨_, rfl, ?_⟩
    have n0_ := Aside0.mk (below_step (by repeat (first | (with_reducible first | exact HB.out | apply below_alloc | apply pw_below_drewN | apply below_drew1) | exact HB.out)) hb)
    clear HB
    have HB := n0_
    clear n0_
    (try clear hb)
    (try clear hb2)
    (try clear hk)
    (try clear hi)
    refine hK.out _ _ trivial (fun hHeld => ?_)
    clear hK K
    refine norm_ (a' := ?_) ?_ ?_
    rotate_left
    ·show Act.put _ (some 23) _ = _
     simp only [Act.put, List.setIfInBounds_toArray, List.set_cons_zero, List.set_cons_succ, i64_w, i32_w]
     rfl
    exact norm_ (by first | (simp only [putAll, Act.put, List.setIfInBounds_toArray, List.set_cons_zero, List.set_cons_succ]; done) | (simp only [putAll, Act.put, List.setIfInBounds_toArray, List.set_cons_zero, List.set_cons_succ]; rfl)) (hJ6 () _ (by repeat (first | (with_reducible first | exact HB.out | apply below_alloc | apply pw_below_drewN | apply below_drew1) | exact HB.out)))
   skip
   refine Kd.R_lit_step (Kd.int .u8) _ 5 ?hg (N := 18) ?hd (xs := ([a0] : List Int)) (inner := [.int .u8 a0]) (ok := fun _ => True) (okp := fun _ => True) ?hr ?hp (fun _ hk => hk) trivial (Below.refl _ _) (Nat.le_refl _) (by simp) ?_; (case hd => rfl); (case hg => rfl); (case hr => first | (go_simp; done) | (go_simp; rfl)); (case hp => exact (Reps.one (show Kd.M (Kd.int .u8) _ _ _ a0 [.int .u8 a0] from rfl) (Reps.none _ _)))
   intro v107 w20 ho21 hb hg_ hnew_
   clear hg_ hnew_
   (first | rw [← Ny106.out] at ho21 | (simp only [Int.reduceToNat] at ho21; rw [← Ny106.out] at ho21))
   have n0_ := Aside0.mk (Kd.R_lower ho21 (below_size (by repeat (first | (with_reducible first | exact HB.out | apply below_alloc | apply pw_below_drewN | apply below_drew1) | exact HB.out))))
   have n1_ := Aside0.mk (below_step (by repeat (first | (with_reducible first | exact HB.out | apply below_alloc | apply pw_below_drewN | apply below_drew1) | exact HB.out)) hb)
   clear HB
   have HO108 := n0_
   have HB := n1_
   clear n0_ n1_
   clear hb ho21
   refine hK.out _ _ trivial (fun hHeld => ?_)
   clear hK K
   refine norm_ (a' := ?_) ?_ ?_
   rotate_left
   ·show Act.put _ (some 18) _ = _
    simp only [Act.put, List.setIfInBounds_toArray, List.set_cons_zero, List.set_cons_succ, i64_w, i32_w]
    rfl
   exact norm_ (by first | (simp only [putAll, Act.put, List.setIfInBounds_toArray, List.set_cons_zero, List.set_cons_succ]; done) | (simp only [putAll, Act.put, List.setIfInBounds_toArray, List.set_cons_zero, List.set_cons_succ]; rfl)) (hJ1 (v107) _ ⟨(by (with_reducible repeat (first | apply Kd.R_alloc | apply Kd.R_drewN | apply Kd.R_drew)); exact HO108.out), (by repeat (first | (with_reducible first | exact HB.out | apply below_alloc | apply pw_below_drewN | apply below_drew1) | exact HB.out))⟩)
  skip
  rintro _ w21 h0_
  have n0_ : Aside0 (Below w.heap.size w w21) := ⟨h0_⟩
  clear HB
  clear h0_
  have HB := n0_
  clear n0_
  have hHeld := trivial
  refine norm_ (a' := ?_) ?_ ?_
  rotate_left
  ·simp only [putAll, Act.put, List.setIfInBounds_toArray, List.set_cons_zero, List.set_cons_succ]
   rfl
  refine two_ (i := 1) (j := 10) (Ni := some 18) (Nj := some 27) #[true, true, false, true, true, true, true, false, true, true, false, false, true, true, false, false, true, true, false, false, true, true, true, true, true, true, false, false] #[true, false, false, true, true, true, true, false, true, true, true, false, true, true, false, false, true, true, false, false, true, true, true, true, true, true, false, false] rfl rfl rfl rfl (two_of HT_.out (by kernel_rfl)) (by decide) (by decide) (fun K hK => ?_) (fun K hK => ?_)
  rotate_left
  ·skip
   refine goes_ Tryd.func21 (by kernel_rfl) rfl #[.int .u64 (IntKind.u64.wrap (a1)), .int .i64 2] (by rfl) rfl rfl (by (try simp only [List.map_toArray, List.map_cons, List.map_nil]); first | done | rfl | (simp only [List.length_drop, List.length_take]; rfl)) ?_
   with_reducible refine (laws_big.calls k (IntKind.u64.wrap (a1)) 2 t110 _ A9.out).mono ?_
   rintro e w22 ⟨rfl, hb⟩
   refine ⟨_, rfl, ?_⟩
   have n0_ := Aside0.mk (below_step (by repeat (first | (with_reducible first | exact HB.out | apply below_alloc | apply pw_below_drewN | apply below_drew1) | exact HB.out)) hb)
   clear HB
   have HB := n0_
   clear n0_
   (try clear hb)
   (try clear hb2)
   (try clear hk)
   (try clear hi)
   refine hK.out _ _ trivial (fun hHeld => ?_)
   clear hK K
   refine norm_ (a' := ?_) ?_ ?_
   rotate_left
   ·show Act.put _ (some 27) _ = _
    simp only [Act.put, List.setIfInBounds_toArray, List.set_cons_zero, List.set_cons_succ, i64_w, i32_w]
    rfl
   exact norm_ (by first | (simp only [putAll, Act.put, List.setIfInBounds_toArray, List.set_cons_zero, List.set_cons_succ]; done) | (simp only [putAll, Act.put, List.setIfInBounds_toArray, List.set_cons_zero, List.set_cons_succ]; rfl)) (hJ6_10 () _ (by repeat (first | (with_reducible first | exact HB.out | apply below_alloc | apply pw_below_drewN | apply below_drew1) | exact HB.out)))
  skip
  refine Kd.R_lit_step (Kd.int .u8) _ 5 ?hg (N := 18) ?hd (xs := ([a0] : List Int)) (inner := [.int .u8 a0]) (ok := fun _ => True) (okp := fun _ => True) ?hr ?hp (fun _ hk => hk) trivial (Below.refl _ _) (Nat.le_refl _) (by simp) ?_; (case hd => rfl); (case hg => rfl); (case hr => first | (go_simp; done) | (go_simp; rfl)); (case hp => exact (Reps.one (show Kd.M (Kd.int .u8) _ _ _ a0 [.int .u8 a0] from rfl) (Reps.none _ _)))
  intro v107 w22 ho23 hb hg_ hnew_
  clear hg_ hnew_
  (first | rw [← Ny106.out] at ho23 | (simp only [Int.reduceToNat] at ho23; rw [← Ny106.out] at ho23))
  have n0_ := Aside0.mk (Kd.R_lower ho23 (below_size (by repeat (first | (with_reducible first | exact HB.out | apply below_alloc | apply pw_below_drewN | apply below_drew1) | exact HB.out))))
  have n1_ := Aside0.mk (below_step (by repeat (first | (with_reducible first | exact HB.out | apply below_alloc | apply pw_below_drewN | apply below_drew1) | exact HB.out)) hb)
  clear HB
  have HO108 := n0_
  have HB := n1_
  clear n0_ n1_
  clear hb ho23
  refine hK.out _ _ trivial (fun hHeld => ?_)
  clear hK K
  refine norm_ (a' := ?_) ?_ ?_
  rotate_left
  ·show Act.put _ (some 18) _ = _
   simp only [Act.put, List.setIfInBounds_toArray, List.set_cons_zero, List.set_cons_succ, i64_w, i32_w]
   rfl
  exact norm_ (by first | (simp only [putAll, Act.put, List.setIfInBounds_toArray, List.set_cons_zero, List.set_cons_succ]; done) | (simp only [putAll, Act.put, List.setIfInBounds_toArray, List.set_cons_zero, List.set_cons_succ]; rfl)) (hJ1_6 (v107) _ ⟨(by (with_reducible repeat (first | apply Kd.R_alloc | apply Kd.R_drewN | apply Kd.R_drew)); exact HO108.out), (by repeat (first | (with_reducible first | exact HB.out | apply below_alloc | apply pw_below_drewN | apply below_drew1) | exact HB.out))⟩)
 rintro v107 w27 ⟨h0_, h1_⟩
 have n0_ : Aside0 (Kd.R (Kd.int .u8) 5 w27 w.heap.size (fun _ => True) v107 y106) := ⟨h0_⟩
 have n1_ : Aside0 (Below w.heap.size w w27) := ⟨h1_⟩
 clear HB
 clear h0_ h1_
 have HO108 := n0_
 have HB := n1_
 clear n0_ n1_
 have hHeld := trivial
 refine norm_ (a' := ?_) ?_ ?_
 rotate_left
 ·simp only [putAll, Act.put, List.setIfInBounds_toArray, List.set_cons_zero, List.set_cons_succ]
  rfl
 refine pure_ (i := 19) (N := some 36) (v := ?_) (a' := ?_) #[true, true, true, true, true, true, true, true, true, true, true, true, true, true, true, true, true, true, true, true, true, true, true, true, true, true, false, false] rfl rfl (any_of HT_.out (by kernel_rfl)) (fun _ _ _ h => h) (Or.inl ⟨by rfl, ?_⟩) ?_ ?_
 rotate_left
 ·intro w'
  go_simp
  with_reducible rfl
 rotate_left
 ·simp only [Act.put, List.setIfInBounds_toArray, List.set_cons_zero, List.set_cons_succ, i64_w, i32_w]
  rfl
 refine pure_ (i := 26) (N := some 43) (v := ?_) (a' := ?_) #[true, true, true, true, true, true, true, true, true, true, true, true, true, true, true, true, true, true, true, true, true, true, true, true, true, true, true, false] rfl rfl (any_of HT_.out (by kernel_rfl)) (fun _ _ _ h => h) (Or.inl ⟨by rfl, ?_⟩) ?_ ?_
 rotate_left
 ·intro w'
  go_simp
  with_reducible rfl
 rotate_left
 ·simp only [Act.put, List.setIfInBounds_toArray, List.set_cons_zero, List.set_cons_succ, i64_w, i32_w]
  rfl
 refine pure_ (i := 27) (N := some 10) (v := ?_) (a' := ?_) #[true, true, true, true, true, true, true, true, true, true, true, true, true, true, true, true, true, true, true, true, true, true, true, true, true, true, true, true] rfl rfl (any_of HT_.out (by kernel_rfl)) (fun _ _ _ h => h) (Or.inl ⟨by rfl, ?_⟩) ?_ ?_
 rotate_left
 ·intro w'
  go_simp
  with_reducible rfl
 rotate_left
 ·simp only [Act.put, List.setIfInBounds_toArray, List.set_cons_zero, List.set_cons_succ, i64_w, i32_w]
  rfl
 refine done_ (done_of HT_.out (by kernel_rfl)) ?_
 try go_wp2
 go_ret
 exact ⟨by first | rfl | (simp [errW_none, errW_some] <;> rfl) | (simp only [← hji6]; first | rfl | (simp [errW_none, errW_some] <;> rfl)) | (simp [*, errW_none, errW_some] <;> rfl), by repeat (first | (with_reducible first | exact HB.out | apply below_alloc | apply pw_below_drewN | apply below_drew1) | exact HB.out)⟩

end Go.Proofs.YtblmbbllfiigmaaDoor.PAll
