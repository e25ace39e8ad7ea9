-- Printed by a program, out of the translation.
import Derived.Test.YtblmbbllfiigmaaDoorPAllx0
import Derived.Test.YtblmbbllfiigmaaDoorPAllx1
import Derived.Test.YtblmbbllfiigmaaDoorPAllx2
namespace Go.Proofs.YtblmbbllfiigmaaDoor.PAll
open Go.RowKit Go.Proofs.YtblmbbllfiigmaaDoorW.PrintWords Go.Proofs.YtblmbbllfiigmaaDoorW.PrintLast Go.Proofs.YtblmbbllfiigmaaDoorW.PrintMore
attribute [local go_sem] max2_int min2_int max_two min_two max_three min_three max_four min_four   -- for this text's walks alone
set_option linter.unusedVariables false
set_option linter.unusedSimpArgs false

/-! ### laws_cutting: function 8 -/
def laws_cutting.l0 : Nat → Int → Int → ByteArray → Int → List ByteArray → Int → Option (List ByteArray)
  | 0, _, _, _, _, _, _ => none
  | k + 1, x0, x1, x2, x3, x9, x10 => if x10 < (x2.size : Int) then ((laws_piece.f k x0 x1 x2 x10 x3).bind fun t116 => (if x9.length < 8796093022208 then (laws_cutting.l0 k x0 x1 x2 x3 (x9 ++ [t116]) (wrap64 (x10 + x3))) else (none))) else (if x10 = 0 then ((laws_piece.f k x0 x1 x2 x10 x3).bind fun t120 => (if x9.length < 8796093022208 then (laws_cutting.l0 k x0 x1 x2 x3 (x9 ++ [t120]) (wrap64 (x10 + x3))) else (none))) else (some x9))
def laws_cutting.f (k : Nat) (a0 : Int) (a1 : Int) (a2 : ByteArray) (a3 : Int) : Option (List ByteArray) := laws_cutting.l0 k a0 a1 a2 a3 (([] : List ByteArray)) 0
set_option maxHeartbeats 8000000 in
set_option maxRecDepth 100000 in
theorem laws_cutting.calls (k : Nat) (a0 : Int) (a1 : Int) (a2 : ByteArray) (a3 : Int) (r : List ByteArray) (w : World) (h : laws_cutting.f k a0 a1 a2 a3 = some r) :
    Calls Tryd.prog 8 #[.int .u8 a0, .int .i64 a1, .string a2, .int .i64 a3] w fun e w' => ∃ v0_ : Value, e = .returned (v0_) ∧ Kd.R Kd.string 9 w' w.heap.size (fun _ => True) v0_ r ∧ Below w.heap.size w w' := by
 have HB := Aside0.mk (Below.refl w.heap.size w)
 have H : (laws_cutting.l0 k a0 a1 a2 a3 (([] : List ByteArray)) 0) = some r := h
 clear h
 obtain ⟨y113, hy113⟩ : ∃ y_ : List ByteArray, y_ = (([] : List ByteArray)) := ⟨_, rfl⟩
 replace H : (laws_cutting.l0 k a0 a1 a2 a3 y113 0) = some r := by first | (rw [hy113]; with_reducible exact H) | (have H2_ := (Option.bind_some _ _).symm.trans H; rw [hy113]; with_reducible exact H2_) | (have H2_ := (Option.bind_some _ _).symm.trans H; with_reducible exact H2_) | with_reducible exact H | (rw [hy113]; exact H) | exact H
 have Ny113 := Aside0.mk hy113
 clear hy113
 have H' := Aside0.mk H
 clear H
 go_enter Tryd.func8, Tryd.ntmps8
 go_wp2_with (first | ((with_reducible refine gate_dst (N := 11) rfl ?_); refine Kd.R_lit Kd.string _ 9 ?hg (N := 11) ?hd (xs := ([] : List ByteArray)) (inner := []) (ok := fun _ => True) (okp := fun _ => True) ?hr ?hp (fun _ hk => hk) trivial (Below.refl _ _) (Nat.le_refl _) (by simp) ?_; (case hd => rfl); (case hg => rfl); (case hr => first | (go_simp; done) | (go_simp; rfl)); (case hp => exact (Reps.none _ _)); intro v114 w5 ho6 hb hg_ hnew_; clear hg_ hnew_; (first | rw [← Ny113.out] at ho6 | (simp only [Int.reduceToNat] at ho6; rw [← Ny113.out] at ho6)); have n0_ := Aside0.mk (Kd.R_lower ho6 (below_size (by repeat (first | (with_reducible first | exact HB.out | apply below_alloc | apply pw_below_drewN | apply below_drew1) | exact HB.out)))); have n1_ := Aside0.mk (below_step (by repeat (first | (with_reducible first | exact HB.out | apply below_alloc | apply pw_below_drewN | apply below_drew1) | exact HB.out)) hb); clear HB; have HO115 := n0_; have HB := n1_; clear n0_ n1_; clear hb ho6))
 go_loopg [9, 10] k (fun kq v9 v10 w' => ∃ (x9_1 : List ByteArray) (x10_1 : Int), v10 = .int .i64 x10_1 ∧ Aside0 (laws_cutting.l0 kq a0 a1 a2 a3 x9_1 x10_1 = some r) ∧ Aside0 (kq ≤ k) ∧ Aside0 (Kd.R Kd.string 9 w' w.heap.size (fun _ => True) v9 x9_1) ∧ Aside0 (Below w.heap.size w w'))
 case atStart => exact ⟨(y113), (0), (by first | rfl | (simp; done) | (simp [*]; done)), H', ⟨Nat.le_refl _⟩, ⟨by (with_reducible repeat (first | apply Kd.R_alloc | apply Kd.R_drewN | apply Kd.R_drew)); exact HO115.out⟩, ⟨by repeat (first | (with_reducible first | exact HB.out | apply below_alloc | apply pw_below_drewN | apply below_drew1) | exact HB.out)⟩⟩
 case round =>
  clear H'
  try clear p2
  obtain ⟨x9_1, x10_1, rfl, HA, HK1, HO_9, HB⟩ := hrel
  cases gk with
  | zero => exact absurd HA.out (by simp [laws_cutting.l0])
  | succ k1 =>
   have H := HA.out
   clear HA
   simp only [laws_cutting.l0] at H
   by_cases c7 : x10_1 < (a2.size : Int)
   ·rw [if_pos c7] at H
    have c7b0 : decide (x10_1 < (a2.size : Int)) = true := decide_eq_true c7
    clear c7
    replace H := Option.bind_eq_some_iff.mp H
    obtain ⟨t116, A80, H⟩ := H
    replace H : (if x9_1.length < 8796093022208 then (laws_cutting.l0 k1 a0 a1 a2 a3 (x9_1 ++ [t116]) (wrap64 (x10_1 + a3))) else (none)) = some r := H
    have A8 := Aside0.mk A80
    clear A80
    by_cases c9 : x9_1.length < 8796093022208
    rotate_left
    ·rw [if_neg c9] at H
     exact absurd H (by simp)
    rw [if_pos c9] at H
    have LMc9 := Aside0.mk c9
    clear c9
    obtain ⟨y117, hy117⟩ : ∃ y_ : List ByteArray, y_ = (x9_1 ++ [t116]) := ⟨_, rfl⟩
    replace H : (laws_cutting.l0 k1 a0 a1 a2 a3 y117 (wrap64 (x10_1 + a3))) = some r := by first | (rw [hy117]; with_reducible exact H) | (have H2_ := (Option.bind_some _ _).symm.trans H; rw [hy117]; with_reducible exact H2_) | (have H2_ := (Option.bind_some _ _).symm.trans H; with_reducible exact H2_) | with_reducible exact H | (rw [hy117]; exact H) | exact H
    have Ny117 := Aside0.mk hy117
    clear hy117
    have H' := Aside0.mk H
    clear H
    go_wp2_with (first | ((with_reducible refine gate_callee (f := 19) rfl ?_); refine goesL_ (some 29) rfl rfl Tryd.func19 (by kernel_rfl) rfl #[.int .u8 a0, .int .i64 a1, .string a2, .int .i64 x10_1, .int .i64 a3] rfl (by (try simp only [List.map_toArray, List.map_cons, List.map_nil]); first | done | rfl | (simp only [List.length_drop, List.length_take]; rfl)) ?_; (with_reducible refine (laws_piece.calls k1 a0 a1 a2 x10_1 a3 t116 _ A8.out).mono ?_); rintro e w10 ⟨rfl, hb⟩; refine ⟨_, rfl, ?_⟩; have n0_ := Aside0.mk (Kd.R_below (by (with_reducible repeat (first | apply Kd.R_alloc | apply Kd.R_drewN | apply Kd.R_drew)); exact HO_9.out) hb); have n1_ := Aside0.mk (below_step (by repeat (first | (with_reducible first | exact HB.out | apply below_alloc | apply pw_below_drewN | apply below_drew1) | exact HB.out)) hb); clear HO_9; clear HB; have HO_9 := n0_; have HB := n1_; clear n0_ n1_; (try clear hb); (try clear hb2); (try clear hk); (try clear hi)) | ((with_reducible refine gate_builtin (b := .append) (xs := #[.tmp 23, .tmp 30]) rfl ?_); at_builtin; refine Kd.R_append Kd.string (w0 := w) w.heap.size rfl (.tmp 23) (.tmp 30) 24 9 (.string ⟨#[]⟩) 16 rfl Tryd.underlying24 info9 rfl (by decide) (by omega) u9 x9_1 t116 [.string t116] (fun _ => True) (fun _ => False) rfl rfl ?aP (fun _ hk => hk.elim) ?aF ?aO ?aB ?aS ?aL ?_; (case aP => exact rfl); (case aB => exact (by repeat (first | (with_reducible first | exact HB.out | apply below_alloc | apply pw_below_drewN | apply below_drew1) | exact HB.out))); (case aF => exact (fun _ _ => trivial)); (case aO => exact (by (with_reducible repeat (first | apply Kd.R_alloc | apply Kd.R_drewN | apply Kd.R_drew)); exact HO_9.out)); (case aS => exact (below_size (by repeat (first | (with_reducible first | exact HB.out | apply below_alloc | apply pw_below_drewN | apply below_drew1) | exact HB.out)))); (case aL => have := LMc9.out; omega); intro v118 w11 ho hb hg hat; rw [← Ny117.out] at ho; have n0_ := Aside0.mk (hb); have n1_ := Aside0.mk (ho); clear HB; clear HO_9; have HB := n0_; have HO119 := n1_; clear n0_ n1_; clear ho hb hg hat))
    go_roundg k1
    case measure => have := HK1.out; omega
    case rel => exact ⟨(y117), (wrap64 (x10_1 + a3)), (by first | rfl | (simp; done) | (simp [*]; done)), H', ⟨by have := HK1.out; omega⟩, ⟨by (with_reducible repeat (first | apply Kd.R_alloc | apply Kd.R_drewN | apply Kd.R_drew)); exact HO119.out⟩, ⟨by repeat (first | (with_reducible first | exact HB.out | apply below_alloc | apply pw_below_drewN | apply below_drew1) | exact HB.out)⟩⟩
   rw [if_neg c7] at H
   have c7b0 : decide (x10_1 < (a2.size : Int)) = false := decide_eq_false c7
   clear c7
   by_cases c12 : x10_1 = 0
   rotate_left
   ·rw [if_neg c12] at H
    have c12b0 : (x10_1 == 0) = false := beq_eq_false_iff_ne.mpr c12
    have c12b1 : (x10_1 != 0) = true := bne_iff_ne.mpr c12
    obtain rfl := Option.some.inj H
    go_wp2
    go_ret
    exact ⟨_, by first | rfl | (simp [errW_none, errW_some] <;> rfl) | (simp [*, errW_none, errW_some] <;> rfl), by (with_reducible repeat (first | apply Kd.R_alloc | apply Kd.R_drewN | apply Kd.R_drew)); exact HO_9.out, by repeat (first | (with_reducible first | exact HB.out | apply below_alloc | apply pw_below_drewN | apply below_drew1) | exact HB.out)⟩
   rw [if_pos c12] at H
   have c12b0 : (x10_1 == 0) = true := beq_iff_eq.mpr c12
   have c12b1 : (x10_1 != 0) = false := bne_eq_false_iff_eq.mpr c12
   clear c12
   replace H := Option.bind_eq_some_iff.mp H
   obtain ⟨t120, A130, H⟩ := H
   replace H : (if x9_1.length < 8796093022208 then (laws_cutting.l0 k1 a0 a1 a2 a3 (x9_1 ++ [t120]) (wrap64 (x10_1 + a3))) else (none)) = some r := H
   have A13 := Aside0.mk A130
   clear A130
   by_cases c14 : x9_1.length < 8796093022208
   rotate_left
   ·rw [if_neg c14] at H
    exact absurd H (by simp)
   rw [if_pos c14] at H
   have LMc14 := Aside0.mk c14
   clear c14
   obtain ⟨y121, hy121⟩ : ∃ y_ : List ByteArray, y_ = (x9_1 ++ [t120]) := ⟨_, rfl⟩
   replace H : (laws_cutting.l0 k1 a0 a1 a2 a3 y121 (wrap64 (x10_1 + a3))) = some r := by first | (rw [hy121]; with_reducible exact H) | (have H2_ := (Option.bind_some _ _).symm.trans H; rw [hy121]; with_reducible exact H2_) | (have H2_ := (Option.bind_some _ _).symm.trans H; with_reducible exact H2_) | with_reducible exact H | (rw [hy121]; exact H) | exact H
   have Ny121 := Aside0.mk hy121
   clear hy121
   have H' := Aside0.mk H
   clear H
   go_wp2_with (first | ((with_reducible refine gate_callee (f := 19) rfl ?_); refine goesL_ (some 29) rfl rfl Tryd.func19 (by kernel_rfl) rfl #[.int .u8 a0, .int .i64 a1, .string a2, .int .i64 x10_1, .int .i64 a3] rfl (by (try simp only [List.map_toArray, List.map_cons, List.map_nil]); first | done | rfl | (simp only [List.length_drop, List.length_take]; rfl)) ?_; (with_reducible refine (laws_piece.calls k1 a0 a1 a2 x10_1 a3 t120 _ A13.out).mono ?_); rintro e w15 ⟨rfl, hb⟩; refine ⟨_, rfl, ?_⟩; have n0_ := Aside0.mk (Kd.R_below (by (with_reducible repeat (first | apply Kd.R_alloc | apply Kd.R_drewN | apply Kd.R_drew)); exact HO_9.out) hb); have n1_ := Aside0.mk (below_step (by repeat (first | (with_reducible first | exact HB.out | apply below_alloc | apply pw_below_drewN | apply below_drew1) | exact HB.out)) hb); clear HO_9; clear HB; have HO_9 := n0_; have HB := n1_; clear n0_ n1_; (try clear hb); (try clear hb2); (try clear hk); (try clear hi)) | ((with_reducible refine gate_builtin (b := .append) (xs := #[.tmp 23, .tmp 30]) rfl ?_); at_builtin; refine Kd.R_append Kd.string (w0 := w) w.heap.size rfl (.tmp 23) (.tmp 30) 24 9 (.string ⟨#[]⟩) 16 rfl Tryd.underlying24 info9 rfl (by decide) (by omega) u9 x9_1 t120 [.string t120] (fun _ => True) (fun _ => False) rfl rfl ?aP (fun _ hk => hk.elim) ?aF ?aO ?aB ?aS ?aL ?_; (case aP => exact rfl); (case aB => exact (by repeat (first | (with_reducible first | exact HB.out | apply below_alloc | apply pw_below_drewN | apply below_drew1) | exact HB.out))); (case aF => exact (fun _ _ => trivial)); (case aO => exact (by (with_reducible repeat (first | apply Kd.R_alloc | apply Kd.R_drewN | apply Kd.R_drew)); exact HO_9.out)); (case aS => exact (below_size (by repeat (first | (with_reducible first | exact HB.out | apply below_alloc | apply pw_below_drewN | apply below_drew1) | exact HB.out)))); (case aL => have := LMc14.out; omega); intro v122 w16 ho hb hg hat; rw [← Ny121.out] at ho; have n0_ := Aside0.mk (hb); have n1_ := Aside0.mk (ho); clear HB; clear HO_9; have HB := n0_; have HO123 := n1_; clear n0_ n1_; clear ho hb hg hat))
   go_roundg k1
   case measure => have := HK1.out; omega
   case rel => exact ⟨(y121), (wrap64 (x10_1 + a3)), (by first | rfl | (simp; done) | (simp [*]; done)), H', ⟨by have := HK1.out; omega⟩, ⟨by (with_reducible repeat (first | apply Kd.R_alloc | apply Kd.R_drewN | apply Kd.R_drew)); exact HO123.out⟩, ⟨by repeat (first | (with_reducible first | exact HB.out | apply below_alloc | apply pw_below_drewN | apply below_drew1) | exact HB.out)⟩⟩

/-! ### laws_record: function 10 -/
def laws_record.f (k : Nat) (a0 : Int) (a1 : ByteArray) : Option (ByteArray) := (laws_big.f k (IntKind.u64.wrap (a0)) 6).bind fun t124 => (if 5 + t124.size ≤ 9223372036854775807 then ((laws_big.f k (IntKind.u64.wrap ((a1.size : Int))) 2).bind fun t125 => (if ((⟨#[22, 254, 253, 0, 0]⟩ : ByteArray) ++ t124).size + t125.size ≤ 9223372036854775807 then (if (((⟨#[22, 254, 253, 0, 0]⟩ : ByteArray) ++ t124) ++ t125).size + a1.size ≤ 9223372036854775807 then (some ((((⟨#[22, 254, 253, 0, 0]⟩ : ByteArray) ++ t124) ++ t125) ++ a1)) else (none)) else (none))) else (none))
set_option maxHeartbeats 8000000 in
set_option maxRecDepth 100000 in
theorem laws_record.calls (k : Nat) (a0 : Int) (a1 : ByteArray) (r : ByteArray) (w : World) (h : laws_record.f k a0 a1 = some r) :
    Calls Tryd.prog 10 #[.int .i64 a0, .string a1] w fun e w' => e = .returned (.string r) ∧ Below w.heap.size w w' := by
 have HB := Aside0.mk (Below.refl w.heap.size w)
 have H : ((laws_big.f k (IntKind.u64.wrap (a0)) 6).bind fun t124 => (if 5 + t124.size ≤ 9223372036854775807 then ((laws_big.f k (IntKind.u64.wrap ((a1.size : Int))) 2).bind fun t125 => (if ((⟨#[22, 254, 253, 0, 0]⟩ : ByteArray) ++ t124).size + t125.size ≤ 9223372036854775807 then (if (((⟨#[22, 254, 253, 0, 0]⟩ : ByteArray) ++ t124) ++ t125).size + a1.size ≤ 9223372036854775807 then (some ((((⟨#[22, 254, 253, 0, 0]⟩ : ByteArray) ++ t124) ++ t125) ++ a1)) else (none)) else (none))) else (none))) = some r := h
 clear h
 replace H := Option.bind_eq_some_iff.mp H
 obtain ⟨t124, A30, H⟩ := H
 replace H : (if 5 + t124.size ≤ 9223372036854775807 then ((laws_big.f k (IntKind.u64.wrap ((a1.size : Int))) 2).bind fun t125 => (if ((⟨#[22, 254, 253, 0, 0]⟩ : ByteArray) ++ t124).size + t125.size ≤ 9223372036854775807 then (if (((⟨#[22, 254, 253, 0, 0]⟩ : ByteArray) ++ t124) ++ t125).size + a1.size ≤ 9223372036854775807 then (some ((((⟨#[22, 254, 253, 0, 0]⟩ : ByteArray) ++ t124) ++ t125) ++ a1)) else (none)) else (none))) else (none)) = some r := H
 have A3 := Aside0.mk A30
 clear A30
 by_cases c4 : 5 + t124.size ≤ 9223372036854775807
 rotate_left
 ·rw [if_neg c4] at H
  exact absurd H (by simp)
 rw [if_pos c4] at H
 have c4b0 := eq_true c4
 have c4b1 : decide (5 + t124.size ≤ 9223372036854775807) = true := decide_eq_true c4
 try have c4b2 : (9223372036854775807 < 5 + t124.size) = False := eq_false (Nat.not_lt.2 c4)
 replace H := Option.bind_eq_some_iff.mp H
 obtain ⟨t125, A50, H⟩ := H
 replace H : (if ((⟨#[22, 254, 253, 0, 0]⟩ : ByteArray) ++ t124).size + t125.size ≤ 9223372036854775807 then (if (((⟨#[22, 254, 253, 0, 0]⟩ : ByteArray) ++ t124) ++ t125).size + a1.size ≤ 9223372036854775807 then (some ((((⟨#[22, 254, 253, 0, 0]⟩ : ByteArray) ++ t124) ++ t125) ++ a1)) else (none)) else (none)) = some r := H
 have A5 := Aside0.mk A50
 clear A50
 by_cases c6 : ((⟨#[22, 254, 253, 0, 0]⟩ : ByteArray) ++ t124).size + t125.size ≤ 9223372036854775807
 rotate_left
 ·rw [if_neg c6] at H
  exact absurd H (by simp)
 rw [if_pos c6] at H
 have c6b0 := eq_true c6
 have c6f := c6
 try simp only [ByteArray.size_append, show (⟨#[22, 254, 253, 0, 0]⟩ : ByteArray).size = 5 from rfl] at c6f
 have c6g := eq_false (Nat.not_lt.2 c6f)
 have c6b1 : decide (((⟨#[22, 254, 253, 0, 0]⟩ : ByteArray) ++ t124).size + t125.size ≤ 9223372036854775807) = true := decide_eq_true c6
 try have c6b2 : (9223372036854775807 < ((⟨#[22, 254, 253, 0, 0]⟩ : ByteArray) ++ t124).size + t125.size) = False := eq_false (Nat.not_lt.2 c6)
 by_cases c7 : (((⟨#[22, 254, 253, 0, 0]⟩ : ByteArray) ++ t124) ++ t125).size + a1.size ≤ 9223372036854775807
 rotate_left
 ·rw [if_neg c7] at H
  exact absurd H (by simp)
 rw [if_pos c7] at H
 have c7b0 := eq_true c7
 have c7f := c7
 try simp only [ByteArray.size_append, show (⟨#[22, 254, 253, 0, 0]⟩ : ByteArray).size = 5 from rfl] at c7f
 have c7g := eq_false (Nat.not_lt.2 c7f)
 have c7b1 : decide ((((⟨#[22, 254, 253, 0, 0]⟩ : ByteArray) ++ t124) ++ t125).size + a1.size ≤ 9223372036854775807) = true := decide_eq_true c7
 try have c7b2 : (9223372036854775807 < (((⟨#[22, 254, 253, 0, 0]⟩ : ByteArray) ++ t124) ++ t125).size + a1.size) = False := eq_false (Nat.not_lt.2 c7)
 obtain rfl := Option.some.inj H
 have eS : IntKind.u64.wrap ((a1.size : Int)) = ((a1.size : Int)) := by rw [IntKind.wrap_u64]; omega
 have A5s : Aside0 (laws_big.f k ((a1.size : Int)) 2 = some t125) := ⟨by have h := A5.out; rw [eS] at h; exact h⟩
 clear eS
 go_enter Tryd.func10, Tryd.ntmps10
 go_wp2_with (first | ((with_reducible refine gate_callee (f := 21) rfl ?_); refine goesL_ (some 7) rfl rfl Tryd.func21 (by kernel_rfl) rfl #[.int .u64 (IntKind.u64.wrap (a0)), .int .i64 6] rfl (by (try simp only [List.map_toArray, List.map_cons, List.map_nil]); first | done | rfl | (simp only [List.length_drop, List.length_take]; rfl)) ?_; (with_reducible refine (laws_big.calls k (IntKind.u64.wrap (a0)) 6 t124 _ A3.out).mono ?_); rintro e w8 ⟨rfl, hb⟩; refine ⟨_, rfl, ?_⟩; have n0_ := Aside0.mk (below_step (by repeat (first | (with_reducible first | exact HB.out | apply below_alloc | apply pw_below_drewN | apply below_drew1) | exact HB.out)) hb); clear HB; have HB := n0_; clear n0_; (try clear hb); (try clear hb2); (try clear hk); (try clear hi)) | ((with_reducible refine gate_callee (f := 21) rfl ?_); refine goesL_ (some 12) rfl rfl Tryd.func21 (by kernel_rfl) rfl #[.int .u64 (((a1.size : Int))), .int .i64 2] rfl (by (try simp only [List.map_toArray, List.map_cons, List.map_nil]); first | done | rfl | (simp only [List.length_drop, List.length_take]; rfl)) ?_; (with_reducible refine (laws_big.calls k (((a1.size : Int))) 2 t125 _ A5s.out).mono ?_); rintro e w9 ⟨rfl, hb⟩; refine ⟨_, rfl, ?_⟩; have n0_ := Aside0.mk (below_step (by repeat (first | (with_reducible first | exact HB.out | apply below_alloc | apply pw_below_drewN | apply below_drew1) | exact HB.out)) hb); clear HB; have HB := n0_; clear n0_; (try clear hb); (try clear hb2); (try clear hk); (try clear hi)))
 go_ret
 exact ⟨by first | rfl | (simp [errW_none, errW_some] <;> rfl) | (simp [*, errW_none, errW_some] <;> rfl), by repeat (first | (with_reducible first | exact HB.out | apply below_alloc | apply pw_below_drewN | apply below_drew1) | exact HB.out)⟩

/-! ### laws_pops: function 11 -/
-- NOT PRINTED: function 30 (dtls_newFragmentBuffer)

-- NOT PRINTED: function 22 (dtls_ZZNewFragments)

-- NOT PRINTED: function 33 (dtls_fragmentBuffer_size)

-- NOT PRINTED: function 46 (binary_bigEndian_Uint16)

-- NOT PRINTED: function 47 (binary_bigEndian_Uint64)

/-! ### protocol_Version_Equal: function 48 -/
-- NOT PRINTED: function 39 (recordlayer_Header_Unmarshal)

-- NOT PRINTED: function 57 (binary_bigEndian_Uint32)

-- NOT PRINTED: function 49 (util_BigEndianUint24)

-- NOT PRINTED: function 40 (handshake_Header_Unmarshal)

/-! ### dtls_fragmentRange_end: function 43 -/
-- NOT PRINTED: function 50 (sort_Search)

-- NOT PRINTED: function 52 (dtls_fragments_covers)

-- NOT PRINTED: function 59 (dtls_fragmentRange_59)

-- NOT PRINTED: function 64 (dtls_fragmentRange_64)

-- NOT PRINTED: function 63 (dtls_fragmentRange_63)

-- NOT PRINTED: function 60 (dtls_fragmentRange_60)

-- NOT PRINTED: function 58 (dtls_fragmentRange_58)

-- NOT PRINTED: function 61 (dtls_fragmentRange_61)

-- NOT PRINTED: function 53 (dtls_fragmentRange_53)

-- NOT PRINTED: function 54 (dtls_fragments_advanceCovered)

-- NOT PRINTED: function 41 (dtls_fragments_add)

-- NOT PRINTED: function 31 (dtls_fragmentBuffer_push)

-- NOT PRINTED: function 23 (dtls_ZZFragments_Push)

-- NOT PRINTED: function 62 (binary_bigEndian_PutUint32)

-- NOT PRINTED: function 55 (util_PutBigEndianUint24)

-- NOT PRINTED: function 56 (binary_bigEndian_PutUint16)

-- NOT PRINTED: function 42 (handshake_Header_Marshal)

-- NOT PRINTED: function 32 (dtls_fragmentBuffer_pop)

-- NOT PRINTED: function 24 (dtls_ZZFragments_Pop)

-- NOT PRINTED: function 25 (dtls_ZZFragments_Size)

-- GIVEN: function 13 (impl_Fragments)

/-! ### laws_whole: function 15 -/
-- NOT PRINTED: function 5 (laws_FnOldPieces)

/-! ### laws_within: function 20 -/
def laws_within.f (a0 : Int) (a1 : Int) : Option (Int) := if a1 = 0 then (none) else (if (Int.tmod a0 a1) < 0 then (some (wrap64 ((Int.tmod a0 a1) + a1))) else (some (Int.tmod a0 a1)))
set_option maxHeartbeats 8000000 in
set_option maxRecDepth 100000 in
theorem laws_within.calls (a0 : Int) (a1 : Int) (r : Int) (w : World) (h : laws_within.f a0 a1 = some r) :
    Calls Tryd.prog 20 #[.int .i64 a0, .int .i64 a1] w fun e w' => e = .returned (.int .i64 r) ∧ Drawn0 w w' := by
 have H : (if a1 = 0 then (none) else (if (Int.tmod a0 a1) < 0 then (some (wrap64 ((Int.tmod a0 a1) + a1))) else (some (Int.tmod a0 a1)))) = some r := h
 clear h
 by_cases c3 : a1 = 0
 ·rw [if_pos c3] at H
  exact absurd H (by simp)
 rw [if_neg c3] at H
 have c3b0 : (a1 == 0) = false := beq_eq_false_iff_ne.mpr c3
 have c3b1 : (a1 != 0) = true := bne_iff_ne.mpr c3
 by_cases c4 : (Int.tmod a0 a1) < 0
 ·rw [if_pos c4] at H
  have c4b0 : decide ((Int.tmod a0 a1) < 0) = true := decide_eq_true c4
  clear c4
  obtain rfl := Option.some.inj H
  go_enter Tryd.func20, Tryd.ntmps20
  go_wp2
  go_ret
  exact ⟨by first | rfl | (simp; done) | (simp [*]; done), by repeat (first | exact Drawn0.refl _ | apply Drawn0.step)⟩
 rw [if_neg c4] at H
 have c4b0 : decide ((Int.tmod a0 a1) < 0) = false := decide_eq_false c4
 clear c4
 obtain rfl := Option.some.inj H
 go_enter Tryd.func20, Tryd.ntmps20
 go_wp2
 go_ret
 exact ⟨by first | rfl | (simp; done) | (simp [*]; done), by repeat (first | exact Drawn0.refl _ | apply Drawn0.step)⟩

end Go.Proofs.YtblmbbllfiigmaaDoor.PAll
