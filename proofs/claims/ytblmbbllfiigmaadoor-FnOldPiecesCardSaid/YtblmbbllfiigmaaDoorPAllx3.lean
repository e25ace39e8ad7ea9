-- Printed by a program, out of the translation.
import Derived.Test.YtblmbbllfiigmaaDoorPAllx0
import Derived.Test.YtblmbbllfiigmaaDoorPAllx1
import Derived.Test.YtblmbbllfiigmaaDoorPAllx2
namespace Go.Proofs.YtblmbbllfiigmaaDoor.PAll
open Go.RowKit Go.Proofs.YtblmbbllfiigmaaDoorW.PrintWords Go.Proofs.YtblmbbllfiigmaaDoorW.PrintLast Go.Proofs.YtblmbbllfiigmaaDoorW.PrintMore
attribute [local go_sem] max2_int min2_int max_two min_two max_three min_three max_four min_four   -- for this text's walks alone
set_option linter.unusedVariables false
set_option linter.unusedSimpArgs false

/-! ### laws_cutting: function 8 -/
def laws_cutting.l0 : Nat → Int → Int → ByteArray → Int → List ByteArray → Int → Option (List ByteArray)
  | 0, _, _, _, _, _, _ => none
  | k + 1, x0, x1, x2, x3, x9, x10 => if x10 < (x2.size : Int) then ((laws_piece.f k x0 x1 x2 x10 x3).bind fun t116 => (if x9.length < 8796093022208 then (laws_cutting.l0 k x0 x1 x2 x3 (x9 ++ [t116]) (wrap64 (x10 + x3))) else (none))) else (if x10 = 0 then ((laws_piece.f k x0 x1 x2 x10 x3).bind fun t120 => (if x9.length < 8796093022208 then (laws_cutting.l0 k x0 x1 x2 x3 (x9 ++ [t120]) (wrap64 (x10 + x3))) else (none))) else (some x9))
def laws_cutting.f (k : Nat) (a0 : Int) (a1 : Int) (a2 : ByteArray) (a3 : Int) : Option (List ByteArray) := laws_cutting.l0 k a0 a1 a2 a3 (([] : List ByteArray)) 0
theorem laws_cutting.mono_l : ∀ k, (∀ y0 y1 y2 y3 y4 y5, LeO (laws_cutting.l0 k y0 y1 y2 y3 y4 y5) (laws_cutting.l0 (k + 1) y0 y1 y2 y3 y4 y5))
  | 0 => fun _ _ _ _ _ _ r h => by simp [laws_cutting.l0] at h
  | k + 1 => by
    have ih0 := laws_cutting.mono_l k
    · intro y0 y1 y2 y3 y4 y5
      unfold laws_cutting.l0
      repeat' first
      | (with_reducible exact ih0 _ _ _ _ _ _)
      | (with_reducible exact laws_piece.mono _ _ _ _ _ _)
      | (with_reducible exact LeO.refl _)
      | (with_reducible exact LeO.none _)
      | (with_reducible refine LeO.ite ?_ ?_)
      | (with_reducible refine LeO.bind ?_ (fun _ => ?_))
      | exact ih0 _ _ _ _ _ _
      | exact laws_piece.mono _ _ _ _ _ _
      | exact LeO.none _
      | refine LeO.ite ?_ ?_
      | refine LeO.bind ?_ (fun _ => ?_)
theorem laws_cutting.mono : ∀ a0 a1 a2 a3 k, LeO (laws_cutting.f k a0 a1 a2 a3) (laws_cutting.f (k + 1) a0 a1 a2 a3) := by
  intro a0 a1 a2 a3 k
  have ih0 := laws_cutting.mono_l k
  unfold laws_cutting.f
  repeat' first
      | (with_reducible exact ih0 _ _ _ _ _ _)
      | (with_reducible exact laws_piece.mono _ _ _ _ _ _)
      | (with_reducible exact LeO.refl _)
      | (with_reducible exact LeO.none _)
      | (with_reducible refine LeO.ite ?_ ?_)
      | (with_reducible refine LeO.bind ?_ (fun _ => ?_))
      | exact ih0 _ _ _ _ _ _
      | exact laws_piece.mono _ _ _ _ _ _
      | exact LeO.none _
      | refine LeO.ite ?_ ?_
      | refine LeO.bind ?_ (fun _ => ?_)
set_option maxHeartbeats 8000000 in
set_option maxRecDepth 100000 in
theorem laws_cutting.calls (k : Nat) (a0 : Int) (a1 : Int) (a2 : ByteArray) (a3 : Int) (r : List ByteArray) (w : World) (h : laws_cutting.f k a0 a1 a2 a3 = some r) :
    Calls Tryd.prog 8 #[.int .u8 a0, .int .i64 a1, .string a2, .int .i64 a3] w fun e w' => ∃ v0_ : Value, e = .returned (v0_) ∧ Kd.R Kd.string 9 w' w.heap.size (fun _ => True) v0_ r ∧ Below w.heap.size w w' := by
  have HB := Aside0.mk (Below.refl w.heap.size w)
  have H : (laws_cutting.l0 k a0 a1 a2 a3 (([] : List ByteArray)) 0) = some r := h
  clear h
  obtain ⟨y113, hy113⟩ : ∃ y_ : List ByteArray, y_ = (([] : List ByteArray)) := ⟨_, rfl⟩
  replace H : (laws_cutting.l0 k a0 a1 a2 a3 y113 0) = some r := by first | (rw [hy113]; with_reducible exact H) | (have H2_ := (Option.bind_some _ _).symm.trans H; rw [hy113]; with_reducible exact H2_) | (have H2_ := (Option.bind_some _ _).symm.trans H; with_reducible exact H2_) | with_reducible exact H | (rw [hy113]; exact H) | exact H
  have Ny113 := Aside0.mk hy113
  clear hy113
  have H' := Aside0.mk H
  clear H
  go_enter Tryd.func8, Tryd.ntmps8
  go_wp2_with (first | ((with_reducible refine gate_dst (N := 11) rfl ?_); refine Kd.R_lit Kd.string _ 9 ?hg (N := 11) ?hd (xs := ([] : List ByteArray)) (inner := []) (ok := fun _ => True) (okp := fun _ => True) ?hr ?hp (fun _ hk => hk) trivial (Below.refl _ _) (Nat.le_refl _) (by simp) ?_; (case hd => rfl); (case hg => rfl); (case hr => first | (go_simp; done) | (go_simp; rfl)); (case hp => exact (Reps.none _ _)); intro v114 w5 ho6 hb hg_ hnew_; clear hg_ hnew_; (first | rw [← Ny113.out] at ho6 | (simp only [Int.reduceToNat] at ho6; rw [← Ny113.out] at ho6)); have n0_ := Aside0.mk (Kd.R_lower ho6 (below_size (by repeat (first | (with_reducible first | exact HB.out | apply below_alloc | apply pw_below_drewN | apply below_drew1) | exact HB.out)))); have n1_ := Aside0.mk (below_step (by repeat (first | (with_reducible first | exact HB.out | apply below_alloc | apply pw_below_drewN | apply below_drew1) | exact HB.out)) hb); clear HB; have HO115 := n0_; have HB := n1_; clear n0_ n1_; clear hb ho6))
  go_loopg [9, 10] k (fun kq v9 v10 w' => ∃ (x9_1 : List ByteArray) (x10_1 : Int), v10 = .int .i64 x10_1 ∧ Aside0 (laws_cutting.l0 kq a0 a1 a2 a3 x9_1 x10_1 = some r) ∧ Aside0 (kq ≤ k) ∧ Aside0 (Kd.R Kd.string 9 w' w.heap.size (fun _ => True) v9 x9_1) ∧ Aside0 (Below w.heap.size w w'))
  case atStart => exact ⟨(y113), (0), (by first | rfl | (simp; done) | (simp [*]; done)), H', ⟨Nat.le_refl _⟩, ⟨by (with_reducible repeat (first | apply Kd.R_alloc | apply Kd.R_drewN | apply Kd.R_drew)); exact HO115.out⟩, ⟨by repeat (first | (with_reducible first | exact HB.out | apply below_alloc | apply pw_below_drewN | apply below_drew1) | exact HB.out)⟩⟩
  case round =>
    clear H'
    try clear p2
    obtain ⟨x9_1, x10_1, rfl, HA, HK1, HO_9, HB⟩ := hrel
    cases gk with
    | zero => exact absurd HA.out (by simp [laws_cutting.l0])
    | succ k1 =>
      have H := HA.out
      clear HA
      simp only [laws_cutting.l0] at H
      by_cases c7 : x10_1 < (a2.size : Int)
      · rw [if_pos c7] at H
        have c7b0 : decide (x10_1 < (a2.size : Int)) = true := decide_eq_true c7
        clear c7
        replace H := Option.bind_eq_some_iff.mp H
        obtain ⟨t116, A80, H⟩ := H
        replace H : (if x9_1.length < 8796093022208 then (laws_cutting.l0 k1 a0 a1 a2 a3 (x9_1 ++ [t116]) (wrap64 (x10_1 + a3))) else (none)) = some r := H
        have A8 := Aside0.mk A80
        clear A80
        by_cases c9 : x9_1.length < 8796093022208
        · rw [if_pos c9] at H
          have LMc9 := Aside0.mk c9
          clear c9
          obtain ⟨y117, hy117⟩ : ∃ y_ : List ByteArray, y_ = (x9_1 ++ [t116]) := ⟨_, rfl⟩
          replace H : (laws_cutting.l0 k1 a0 a1 a2 a3 y117 (wrap64 (x10_1 + a3))) = some r := by first | (rw [hy117]; with_reducible exact H) | (have H2_ := (Option.bind_some _ _).symm.trans H; rw [hy117]; with_reducible exact H2_) | (have H2_ := (Option.bind_some _ _).symm.trans H; with_reducible exact H2_) | with_reducible exact H | (rw [hy117]; exact H) | exact H
          have Ny117 := Aside0.mk hy117
          clear hy117
          have H' := Aside0.mk H
          clear H
          go_wp2_with (first | ((with_reducible refine gate_callee (f := 19) rfl ?_); refine goesL_ (some 29) rfl rfl Tryd.func19 (by kernel_rfl) rfl #[.int .u8 a0, .int .i64 a1, .string a2, .int .i64 x10_1, .int .i64 a3] rfl (by (try simp only [List.map_toArray, List.map_cons, List.map_nil]); first | done | rfl | (simp only [List.length_drop, List.length_take]; rfl)) ?_; (with_reducible refine (laws_piece.calls k1 a0 a1 a2 x10_1 a3 t116 _ A8.out).mono ?_); rintro e w10 ⟨rfl, hb⟩; refine ⟨_, rfl, ?_⟩; have n0_ := Aside0.mk (Kd.R_below (by (with_reducible repeat (first | apply Kd.R_alloc | apply Kd.R_drewN | apply Kd.R_drew)); exact HO_9.out) hb); have n1_ := Aside0.mk (below_step (by repeat (first | (with_reducible first | exact HB.out | apply below_alloc | apply pw_below_drewN | apply below_drew1) | exact HB.out)) hb); clear HO_9; clear HB; have HO_9 := n0_; have HB := n1_; clear n0_ n1_; (try clear hb); (try clear hb2); (try clear hk); (try clear hi)) | ((with_reducible refine gate_builtin (b := .append) (xs := #[.tmp 23, .tmp 30]) rfl ?_); at_builtin; refine Kd.R_append Kd.string (w0 := w) w.heap.size rfl (.tmp 23) (.tmp 30) 24 9 (.string ⟨#[]⟩) 16 rfl Tryd.underlying24 info9 rfl (by decide) (by omega) u9 x9_1 t116 [.string t116] (fun _ => True) (fun _ => False) rfl rfl ?aP (fun _ hk => hk.elim) ?aF ?aO ?aB ?aS ?aL ?_; (case aP => exact rfl); (case aB => exact (by repeat (first | (with_reducible first | exact HB.out | apply below_alloc | apply pw_below_drewN | apply below_drew1) | exact HB.out))); (case aF => exact (fun _ _ => trivial)); (case aO => exact (by (with_reducible repeat (first | apply Kd.R_alloc | apply Kd.R_drewN | apply Kd.R_drew)); exact HO_9.out)); (case aS => exact (below_size (by repeat (first | (with_reducible first | exact HB.out | apply below_alloc | apply pw_below_drewN | apply below_drew1) | exact HB.out)))); (case aL => have := LMc9.out; omega); intro v118 w11 ho hb hg hat; rw [← Ny117.out] at ho; have n0_ := Aside0.mk (hb); have n1_ := Aside0.mk (ho); clear HB; clear HO_9; have HB := n0_; have HO119 := n1_; clear n0_ n1_; clear ho hb hg hat))
          go_roundg k1
          case measure => have := HK1.out; omega
          case rel => exact ⟨(y117), (wrap64 (x10_1 + a3)), (by first | rfl | (simp; done) | (simp [*]; done)), H', ⟨by have := HK1.out; omega⟩, ⟨by (with_reducible repeat (first | apply Kd.R_alloc | apply Kd.R_drewN | apply Kd.R_drew)); exact HO119.out⟩, ⟨by repeat (first | (with_reducible first | exact HB.out | apply below_alloc | apply pw_below_drewN | apply below_drew1) | exact HB.out)⟩⟩
        · rw [if_neg c9] at H
          exact absurd H (by simp)
      · rw [if_neg c7] at H
        have c7b0 : decide (x10_1 < (a2.size : Int)) = false := decide_eq_false c7
        clear c7
        by_cases c12 : x10_1 = 0
        · rw [if_pos c12] at H
          have c12b0 : (x10_1 == 0) = true := beq_iff_eq.mpr c12
          have c12b1 : (x10_1 != 0) = false := bne_eq_false_iff_eq.mpr c12
          clear c12
          replace H := Option.bind_eq_some_iff.mp H
          obtain ⟨t120, A130, H⟩ := H
          replace H : (if x9_1.length < 8796093022208 then (laws_cutting.l0 k1 a0 a1 a2 a3 (x9_1 ++ [t120]) (wrap64 (x10_1 + a3))) else (none)) = some r := H
          have A13 := Aside0.mk A130
          clear A130
          by_cases c14 : x9_1.length < 8796093022208
          · rw [if_pos c14] at H
            have LMc14 := Aside0.mk c14
            clear c14
            obtain ⟨y121, hy121⟩ : ∃ y_ : List ByteArray, y_ = (x9_1 ++ [t120]) := ⟨_, rfl⟩
            replace H : (laws_cutting.l0 k1 a0 a1 a2 a3 y121 (wrap64 (x10_1 + a3))) = some r := by first | (rw [hy121]; with_reducible exact H) | (have H2_ := (Option.bind_some _ _).symm.trans H; rw [hy121]; with_reducible exact H2_) | (have H2_ := (Option.bind_some _ _).symm.trans H; with_reducible exact H2_) | with_reducible exact H | (rw [hy121]; exact H) | exact H
            have Ny121 := Aside0.mk hy121
            clear hy121
            have H' := Aside0.mk H
            clear H
            go_wp2_with (first | ((with_reducible refine gate_callee (f := 19) rfl ?_); refine goesL_ (some 29) rfl rfl Tryd.func19 (by kernel_rfl) rfl #[.int .u8 a0, .int .i64 a1, .string a2, .int .i64 x10_1, .int .i64 a3] rfl (by (try simp only [List.map_toArray, List.map_cons, List.map_nil]); first | done | rfl | (simp only [List.length_drop, List.length_take]; rfl)) ?_; (with_reducible refine (laws_piece.calls k1 a0 a1 a2 x10_1 a3 t120 _ A13.out).mono ?_); rintro e w15 ⟨rfl, hb⟩; refine ⟨_, rfl, ?_⟩; have n0_ := Aside0.mk (Kd.R_below (by (with_reducible repeat (first | apply Kd.R_alloc | apply Kd.R_drewN | apply Kd.R_drew)); exact HO_9.out) hb); have n1_ := Aside0.mk (below_step (by repeat (first | (with_reducible first | exact HB.out | apply below_alloc | apply pw_below_drewN | apply below_drew1) | exact HB.out)) hb); clear HO_9; clear HB; have HO_9 := n0_; have HB := n1_; clear n0_ n1_; (try clear hb); (try clear hb2); (try clear hk); (try clear hi)) | ((with_reducible refine gate_builtin (b := .append) (xs := #[.tmp 23, .tmp 30]) rfl ?_); at_builtin; refine Kd.R_append Kd.string (w0 := w) w.heap.size rfl (.tmp 23) (.tmp 30) 24 9 (.string ⟨#[]⟩) 16 rfl Tryd.underlying24 info9 rfl (by decide) (by omega) u9 x9_1 t120 [.string t120] (fun _ => True) (fun _ => False) rfl rfl ?aP (fun _ hk => hk.elim) ?aF ?aO ?aB ?aS ?aL ?_; (case aP => exact rfl); (case aB => exact (by repeat (first | (with_reducible first | exact HB.out | apply below_alloc | apply pw_below_drewN | apply below_drew1) | exact HB.out))); (case aF => exact (fun _ _ => trivial)); (case aO => exact (by (with_reducible repeat (first | apply Kd.R_alloc | apply Kd.R_drewN | apply Kd.R_drew)); exact HO_9.out)); (case aS => exact (below_size (by repeat (first | (with_reducible first | exact HB.out | apply below_alloc | apply pw_below_drewN | apply below_drew1) | exact HB.out)))); (case aL => have := LMc14.out; omega); intro v122 w16 ho hb hg hat; rw [← Ny121.out] at ho; have n0_ := Aside0.mk (hb); have n1_ := Aside0.mk (ho); clear HB; clear HO_9; have HB := n0_; have HO123 := n1_; clear n0_ n1_; clear ho hb hg hat))
            go_roundg k1
            case measure => have := HK1.out; omega
            case rel => exact ⟨(y121), (wrap64 (x10_1 + a3)), (by first | rfl | (simp; done) | (simp [*]; done)), H', ⟨by have := HK1.out; omega⟩, ⟨by (with_reducible repeat (first | apply Kd.R_alloc | apply Kd.R_drewN | apply Kd.R_drew)); exact HO123.out⟩, ⟨by repeat (first | (with_reducible first | exact HB.out | apply below_alloc | apply pw_below_drewN | apply below_drew1) | exact HB.out)⟩⟩
          · rw [if_neg c14] at H
            exact absurd H (by simp)
        · rw [if_neg c12] at H
          have c12b0 : (x10_1 == 0) = false := beq_eq_false_iff_ne.mpr c12
          have c12b1 : (x10_1 != 0) = true := bne_iff_ne.mpr c12
          obtain rfl := Option.some.inj H
          go_wp2
          go_ret
          exact ⟨_, by first | rfl | (simp [errW_none, errW_some] <;> rfl) | (simp [*, errW_none, errW_some] <;> rfl), by (with_reducible repeat (first | apply Kd.R_alloc | apply Kd.R_drewN | apply Kd.R_drew)); exact HO_9.out, by repeat (first | (with_reducible first | exact HB.out | apply below_alloc | apply pw_below_drewN | apply below_drew1) | exact HB.out)⟩

/-! ### laws_record: function 10 -/
def laws_record.f (k : Nat) (a0 : Int) (a1 : ByteArray) : Option (ByteArray) := (laws_big.f k (IntKind.u64.wrap (a0)) 6).bind fun t124 => (if 5 + t124.size ≤ 9223372036854775807 then ((laws_big.f k (IntKind.u64.wrap ((a1.size : Int))) 2).bind fun t125 => (if ((⟨#[22, 254, 253, 0, 0]⟩ : ByteArray) ++ t124).size + t125.size ≤ 9223372036854775807 then (if (((⟨#[22, 254, 253, 0, 0]⟩ : ByteArray) ++ t124) ++ t125).size + a1.size ≤ 9223372036854775807 then (some ((((⟨#[22, 254, 253, 0, 0]⟩ : ByteArray) ++ t124) ++ t125) ++ a1)) else (none)) else (none))) else (none))
theorem laws_record.mono : ∀ a0 a1 k, LeO (laws_record.f k a0 a1) (laws_record.f (k + 1) a0 a1) := by
  intro a0 a1 k
  unfold laws_record.f
  repeat' first
      | (with_reducible exact laws_big.mono _ _ _)
      | (with_reducible exact LeO.refl _)
      | (with_reducible exact LeO.none _)
      | (with_reducible refine LeO.ite ?_ ?_)
      | (with_reducible refine LeO.bind ?_ (fun _ => ?_))
      | exact laws_big.mono _ _ _
      | exact LeO.none _
      | refine LeO.ite ?_ ?_
      | refine LeO.bind ?_ (fun _ => ?_)
set_option maxHeartbeats 8000000 in
set_option maxRecDepth 100000 in
theorem laws_record.calls (k : Nat) (a0 : Int) (a1 : ByteArray) (r : ByteArray) (w : World) (h : laws_record.f k a0 a1 = some r) :
    Calls Tryd.prog 10 #[.int .i64 a0, .string a1] w fun e w' => e = .returned (.string r) ∧ Below w.heap.size w w' := by
  have HB := Aside0.mk (Below.refl w.heap.size w)
  have H : ((laws_big.f k (IntKind.u64.wrap (a0)) 6).bind fun t124 => (if 5 + t124.size ≤ 9223372036854775807 then ((laws_big.f k (IntKind.u64.wrap ((a1.size : Int))) 2).bind fun t125 => (if ((⟨#[22, 254, 253, 0, 0]⟩ : ByteArray) ++ t124).size + t125.size ≤ 9223372036854775807 then (if (((⟨#[22, 254, 253, 0, 0]⟩ : ByteArray) ++ t124) ++ t125).size + a1.size ≤ 9223372036854775807 then (some ((((⟨#[22, 254, 253, 0, 0]⟩ : ByteArray) ++ t124) ++ t125) ++ a1)) else (none)) else (none))) else (none))) = some r := h
  clear h
  replace H := Option.bind_eq_some_iff.mp H
  obtain ⟨t124, A30, H⟩ := H
  replace H : (if 5 + t124.size ≤ 9223372036854775807 then ((laws_big.f k (IntKind.u64.wrap ((a1.size : Int))) 2).bind fun t125 => (if ((⟨#[22, 254, 253, 0, 0]⟩ : ByteArray) ++ t124).size + t125.size ≤ 9223372036854775807 then (if (((⟨#[22, 254, 253, 0, 0]⟩ : ByteArray) ++ t124) ++ t125).size + a1.size ≤ 9223372036854775807 then (some ((((⟨#[22, 254, 253, 0, 0]⟩ : ByteArray) ++ t124) ++ t125) ++ a1)) else (none)) else (none))) else (none)) = some r := H
  have A3 := Aside0.mk A30
  clear A30
  by_cases c4 : 5 + t124.size ≤ 9223372036854775807
  · rw [if_pos c4] at H
    have c4b0 := eq_true c4
    have c4b1 : decide (5 + t124.size ≤ 9223372036854775807) = true := decide_eq_true c4
    try have c4b2 : (9223372036854775807 < 5 + t124.size) = False := eq_false (Nat.not_lt.2 c4)
    replace H := Option.bind_eq_some_iff.mp H
    obtain ⟨t125, A50, H⟩ := H
    replace H : (if ((⟨#[22, 254, 253, 0, 0]⟩ : ByteArray) ++ t124).size + t125.size ≤ 9223372036854775807 then (if (((⟨#[22, 254, 253, 0, 0]⟩ : ByteArray) ++ t124) ++ t125).size + a1.size ≤ 9223372036854775807 then (some ((((⟨#[22, 254, 253, 0, 0]⟩ : ByteArray) ++ t124) ++ t125) ++ a1)) else (none)) else (none)) = some r := H
    have A5 := Aside0.mk A50
    clear A50
    by_cases c6 : ((⟨#[22, 254, 253, 0, 0]⟩ : ByteArray) ++ t124).size + t125.size ≤ 9223372036854775807
    · rw [if_pos c6] at H
      have c6b0 := eq_true c6
      have c6f := c6
      try simp only [ByteArray.size_append, show (⟨#[22, 254, 253, 0, 0]⟩ : ByteArray).size = 5 from rfl] at c6f
      have c6g := eq_false (Nat.not_lt.2 c6f)
      have c6b1 : decide (((⟨#[22, 254, 253, 0, 0]⟩ : ByteArray) ++ t124).size + t125.size ≤ 9223372036854775807) = true := decide_eq_true c6
      try have c6b2 : (9223372036854775807 < ((⟨#[22, 254, 253, 0, 0]⟩ : ByteArray) ++ t124).size + t125.size) = False := eq_false (Nat.not_lt.2 c6)
      by_cases c7 : (((⟨#[22, 254, 253, 0, 0]⟩ : ByteArray) ++ t124) ++ t125).size + a1.size ≤ 9223372036854775807
      · rw [if_pos c7] at H
        have c7b0 := eq_true c7
        have c7f := c7
        try simp only [ByteArray.size_append, show (⟨#[22, 254, 253, 0, 0]⟩ : ByteArray).size = 5 from rfl] at c7f
        have c7g := eq_false (Nat.not_lt.2 c7f)
        have c7b1 : decide ((((⟨#[22, 254, 253, 0, 0]⟩ : ByteArray) ++ t124) ++ t125).size + a1.size ≤ 9223372036854775807) = true := decide_eq_true c7
        try have c7b2 : (9223372036854775807 < (((⟨#[22, 254, 253, 0, 0]⟩ : ByteArray) ++ t124) ++ t125).size + a1.size) = False := eq_false (Nat.not_lt.2 c7)
        obtain rfl := Option.some.inj H
        have eS : IntKind.u64.wrap ((a1.size : Int)) = ((a1.size : Int)) := by rw [IntKind.wrap_u64]; omega
        have A5s : Aside0 (laws_big.f k ((a1.size : Int)) 2 = some t125) := ⟨by have h := A5.out; rw [eS] at h; exact h⟩
        clear eS
        go_enter Tryd.func10, Tryd.ntmps10
        go_wp2_with (first | ((with_reducible refine gate_callee (f := 21) rfl ?_); refine goesL_ (some 7) rfl rfl Tryd.func21 (by kernel_rfl) rfl #[.int .u64 (IntKind.u64.wrap (a0)), .int .i64 6] rfl (by (try simp only [List.map_toArray, List.map_cons, List.map_nil]); first | done | rfl | (simp only [List.length_drop, List.length_take]; rfl)) ?_; (with_reducible refine (laws_big.calls k (IntKind.u64.wrap (a0)) 6 t124 _ A3.out).mono ?_); rintro e w8 ⟨rfl, hb⟩; refine ⟨_, rfl, ?_⟩; have n0_ := Aside0.mk (below_step (by repeat (first | (with_reducible first | exact HB.out | apply below_alloc | apply pw_below_drewN | apply below_drew1) | exact HB.out)) hb); clear HB; have HB := n0_; clear n0_; (try clear hb); (try clear hb2); (try clear hk); (try clear hi)) | ((with_reducible refine gate_callee (f := 21) rfl ?_); refine goesL_ (some 12) rfl rfl Tryd.func21 (by kernel_rfl) rfl #[.int .u64 (((a1.size : Int))), .int .i64 2] rfl (by (try simp only [List.map_toArray, List.map_cons, List.map_nil]); first | done | rfl | (simp only [List.length_drop, List.length_take]; rfl)) ?_; (with_reducible refine (laws_big.calls k (((a1.size : Int))) 2 t125 _ A5s.out).mono ?_); rintro e w9 ⟨rfl, hb⟩; refine ⟨_, rfl, ?_⟩; have n0_ := Aside0.mk (below_step (by repeat (first | (with_reducible first | exact HB.out | apply below_alloc | apply pw_below_drewN | apply below_drew1) | exact HB.out)) hb); clear HB; have HB := n0_; clear n0_; (try clear hb); (try clear hb2); (try clear hk); (try clear hi)))
        go_ret
        exact ⟨by first | rfl | (simp [errW_none, errW_some] <;> rfl) | (simp [*, errW_none, errW_some] <;> rfl), by repeat (first | (with_reducible first | exact HB.out | apply below_alloc | apply pw_below_drewN | apply below_drew1) | exact HB.out)⟩
      · rw [if_neg c7] at H
        exact absurd H (by simp)
    · rw [if_neg c6] at H
      exact absurd H (by simp)
  · rw [if_neg c4] at H
    exact absurd H (by simp)

/-! ### laws_pops: function 11 -/
mutual
def laws_pops.l0 : Nat → Int → List (S40) → List ByteArray → Int → Int → Option ((List (S40)))
  | 0, _, _, _, _, _ => none
  | k + 1, x1, x5, x8, x9, x10 => if x10 < x9 then (if 0 ≤ x10 then (if x10 < (x8.length : Int) then (if x5.length < 5864062014805 then (laws_pops.l0 k x1 (x5 ++ [(⟨true, rdOf ByteArray.empty x8 x10⟩ : S40)]) x8 x9 (wrap64 (x10 + 1))) else (none)) else (none)) else (none)) else (laws_pops.l1 k x5 x1 0)
def laws_pops.l1 : Nat → List (S40) → Int → Int → Option ((List (S40)))
  | 0, _, _, _ => none
  | k + 1, x5, x20, x21 => if x21 < x20 then (if x5.length < 5864062014805 then (laws_pops.l1 k (x5 ++ [(⟨false, (⟨#[]⟩ : ByteArray)⟩ : S40)]) x20 (wrap64 (x21 + 1))) else (none)) else (some x5)
end
def laws_pops.f (k : Nat) (l0 : List ByteArray) (a1 : Int) : Option ((List (S40))) := laws_pops.l0 k a1 ([] : List (S40)) l0 (l0.length : Int) 0
theorem laws_pops.mono_l : ∀ k, (∀ y0 y1 y2 y3 y4, LeO (laws_pops.l0 k y0 y1 y2 y3 y4) (laws_pops.l0 (k + 1) y0 y1 y2 y3 y4)) ∧ (∀ y0 y1 y2, LeO (laws_pops.l1 k y0 y1 y2) (laws_pops.l1 (k + 1) y0 y1 y2))
  | 0 => ⟨fun _ _ _ _ _ r h => by simp [laws_pops.l0] at h, fun _ _ _ r h => by simp [laws_pops.l1] at h⟩
  | k + 1 => by
    obtain ⟨ih0, ih1⟩ := laws_pops.mono_l k
    refine ⟨?_, ?_⟩
    · intro y0 y1 y2 y3 y4
      unfold laws_pops.l0
      repeat' first
      | (with_reducible exact ih0 _ _ _ _ _)
      | (with_reducible exact ih1 _ _ _)
      | (with_reducible exact LeO.refl _)
      | (with_reducible exact LeO.none _)
      | (with_reducible refine LeO.ite ?_ ?_)
      | (with_reducible refine LeO.bind ?_ (fun _ => ?_))
      | exact ih0 _ _ _ _ _
      | exact ih1 _ _ _
      | exact LeO.none _
      | refine LeO.ite ?_ ?_
      | refine LeO.bind ?_ (fun _ => ?_)
    · intro y0 y1 y2
      unfold laws_pops.l1
      repeat' first
      | (with_reducible exact ih0 _ _ _ _ _)
      | (with_reducible exact ih1 _ _ _)
      | (with_reducible exact LeO.refl _)
      | (with_reducible exact LeO.none _)
      | (with_reducible refine LeO.ite ?_ ?_)
      | (with_reducible refine LeO.bind ?_ (fun _ => ?_))
      | exact ih0 _ _ _ _ _
      | exact ih1 _ _ _
      | exact LeO.none _
      | refine LeO.ite ?_ ?_
      | refine LeO.bind ?_ (fun _ => ?_)
theorem laws_pops.mono : ∀ a0 a1 k, LeO (laws_pops.f k a0 a1) (laws_pops.f (k + 1) a0 a1) := by
  intro a0 a1 k
  obtain ⟨ih0, ih1⟩ := laws_pops.mono_l k
  unfold laws_pops.f
  repeat' first
      | (with_reducible exact ih0 _ _ _ _ _)
      | (with_reducible exact ih1 _ _ _)
      | (with_reducible exact LeO.refl _)
      | (with_reducible exact LeO.none _)
      | (with_reducible refine LeO.ite ?_ ?_)
      | (with_reducible refine LeO.bind ?_ (fun _ => ?_))
      | exact ih0 _ _ _ _ _
      | exact ih1 _ _ _
      | exact LeO.none _
      | refine LeO.ite ?_ ?_
      | refine LeO.bind ?_ (fun _ => ?_)
set_option maxHeartbeats 8000000 in
set_option maxRecDepth 100000 in
theorem laws_pops.calls (k : Nat) (A0 : Option Addr) (c0 : Nat) (l0 : List ByteArray) (a1 : Int) (r : List (S40)) (w : World) (hr0 : Kd.C Kd.string w A0 l0.length l0) (hc0 : l0.length ≤ c0) (h : laws_pops.f k l0 a1 = some r) :
    Calls Tryd.prog 11 #[.slice A0 l0.length c0, .int .i64 a1] w fun e w' => ∃ v0_ : Value, e = .returned (v0_) ∧ Kd.R k40 40 w' w.heap.size (fun _ => True) v0_ r ∧ Below w.heap.size w w' := by
  have hu40 := Tryd.underlying40
  have HR0 := Aside0.mk hr0
  have HC0 := Aside0.mk hc0
  clear hr0 hc0
  have HB := Aside0.mk (Below.refl w.heap.size w)
  have H : (laws_pops.l0 k a1 ([] : List (S40)) l0 (l0.length : Int) 0) = some r := h
  clear h
  have H' := Aside0.mk H
  clear H
  go_enter Tryd.func11, Tryd.ntmps11
  go_wp2
  go_loopg [5, 10] k (fun kq v5 v10 w' => ∃ (x5_1 : List (S40)) (x10_1 : Int), v10 = .int .i64 x10_1 ∧ Aside0 (laws_pops.l0 kq a1 x5_1 l0 (l0.length : Int) x10_1 = some r) ∧ Aside0 (kq ≤ k) ∧ Aside0 (Kd.R k40 40 w' w.heap.size (fun _ => True) v5 x5_1) ∧ Aside0 (Below w.heap.size w w'))
  case atStart => exact ⟨(([] : List (S40))), (0), (by first | rfl | (simp; done) | (simp [*]; done)), H', ⟨Nat.le_refl _⟩, ⟨by first | exact Kd.R_nil _ _ _ _ _ | exact Kd.N_nil _ _ _ _ _ | exact Kd.V_nil _ _ _ _ _ | exact Kd.Q_nil _ _ _ _ _ | exact Kd.S_nil _ _ _ _ _⟩, ⟨by repeat (first | (with_reducible first | exact HB.out | apply below_alloc | apply pw_below_drewN | apply below_drew1) | exact HB.out)⟩⟩
  case round =>
    clear H'
    try clear c1
    try clear p2
    obtain ⟨x5_1, x10_1, rfl, HA, HK1, HO_5, HB⟩ := hrel
    cases gk with
    | zero => exact absurd HA.out (by simp [laws_pops.l0])
    | succ k1 =>
      have H := HA.out
      clear HA
      simp only [laws_pops.l0] at H
      by_cases c3 : x10_1 < (l0.length : Int)
      · rw [if_pos c3] at H
        have c3b0 : decide (x10_1 < (l0.length : Int)) = true := decide_eq_true c3
        clear c3
        by_cases c4 : 0 ≤ x10_1
        · rw [if_pos c4] at H
          have c4b0 : decide (0 ≤ x10_1) = true := decide_eq_true c4
          clear c4
          by_cases c5 : x10_1 < (l0.length : Int)
          · rw [if_pos c5] at H
            have c5b0 : decide (x10_1 < (l0.length : Int)) = true := decide_eq_true c5
            clear c5
            by_cases c6 : x5_1.length < 5864062014805
            · rw [if_pos c6] at H
              have LMc6 := Aside0.mk c6
              clear c6
              obtain ⟨y127, hy127⟩ : ∃ y_ : List (S40), y_ = (x5_1 ++ [(⟨true, rdOf ByteArray.empty l0 x10_1⟩ : S40)]) := ⟨_, rfl⟩
              replace H : (laws_pops.l0 k1 a1 y127 l0 (l0.length : Int) (wrap64 (x10_1 + 1))) = some r := by first | (rw [hy127]; with_reducible exact H) | (have H2_ := (Option.bind_some _ _).symm.trans H; rw [hy127]; with_reducible exact H2_) | (have H2_ := (Option.bind_some _ _).symm.trans H; with_reducible exact H2_) | with_reducible exact H | (rw [hy127]; exact H) | exact H
              have Ny127 := Aside0.mk hy127
              clear hy127
              have H' := Aside0.mk H
              clear H
              have p126 : 0 ≤ (x10_1 : Int) := of_decide_eq_true (by first | (with_reducible assumption) | assumption)
              have q126 : x10_1 < (l0.length : Int) := of_decide_eq_true (by first | (with_reducible assumption) | assumption)
              obtain ⟨ad126, e126, hx126_0⟩ := Kd.at_string HR0.out x10_1 p126 q126
              cases e126
              replace hx126_0 := (HB.out.cell (World.block_lt_of_cell? w _ hx126_0)).trans hx126_0
              replace p126 := eq_true p126
              replace q126 := eq_true q126
              go_wp2_with (first | ((with_reducible refine gate_builtin (b := .append) (xs := #[.tmp 14, .tmp 17]) rfl ?_); at_builtin; refine Kd.R_append k40 (w0 := w) w.heap.size rfl (.tmp 14) (.tmp 17) 28 40 (.agg #[(.bool false), (.string ⟨#[]⟩)]) 24 rfl Tryd.underlying28 info40 rfl (by decide) (by omega) u5 x5_1 (⟨true, rdOf ByteArray.empty l0 x10_1⟩ : S40) [.bool true, .string (rdOf ByteArray.empty l0 x10_1)] (fun _ => True) (fun _ => False) rfl rfl ?aP (fun _ hk => hk.elim) ?aF ?aO ?aB ?aS ?aL ?_; (case aP => exact k40_mkM _ _ _ (⟨true, rdOf ByteArray.empty l0 x10_1⟩ : S40)); (case aB => exact (by repeat (first | (with_reducible first | exact HB.out | apply below_alloc | apply pw_below_drewN | apply below_drew1) | exact HB.out))); (case aF => exact (fun _ _ => trivial)); (case aO => exact (by (with_reducible repeat (first | apply Kd.R_alloc | apply Kd.R_drewN | apply Kd.R_drew)); exact HO_5.out)); (case aS => exact (below_size (by repeat (first | (with_reducible first | exact HB.out | apply below_alloc | apply pw_below_drewN | apply below_drew1) | exact HB.out)))); (case aL => have := LMc6.out; omega); intro v128 w7 ho hb hg hat; rw [← Ny127.out] at ho; have n0_ := Aside0.mk (hb); have n1_ := Aside0.mk (ho); clear HB; clear HO_5; have HB := n0_; have HO129 := n1_; clear n0_ n1_; clear ho hb hg hat))
              go_roundg k1
              case measure => have := HK1.out; omega
              case rel => exact ⟨(y127), (wrap64 (x10_1 + 1)), (by first | rfl | (simp; done) | (simp [*]; done)), H', ⟨by have := HK1.out; omega⟩, ⟨by (with_reducible repeat (first | apply Kd.R_alloc | apply Kd.R_drewN | apply Kd.R_drew)); exact HO129.out⟩, ⟨by repeat (first | (with_reducible first | exact HB.out | apply below_alloc | apply pw_below_drewN | apply below_drew1) | exact HB.out)⟩⟩
            · rw [if_neg c6] at H
              exact absurd H (by simp)
          · rw [if_neg c5] at H
            exact absurd H (by simp)
        · rw [if_neg c4] at H
          exact absurd H (by simp)
      · rw [if_neg c3] at H
        have c3b0 : decide (x10_1 < (l0.length : Int)) = false := decide_eq_false c3
        clear c3
        have H' := Aside0.mk H
        clear H
        go_wp2
        go_loopg [5, 21] k1 (fun kq v5 v21 w' => ∃ (x5_2 : List (S40)) (x21_2 : Int), v21 = .int .i64 x21_2 ∧ Aside0 (laws_pops.l1 kq x5_2 a1 x21_2 = some r) ∧ Aside0 (kq ≤ k1) ∧ Aside0 (Kd.R k40 40 w' w.heap.size (fun _ => True) v5 x5_2) ∧ Aside0 (Below w.heap.size w w'))
        case atStart => exact ⟨(x5_1), (0), (by first | rfl | (simp; done) | (simp [*]; done)), H', ⟨Nat.le_refl _⟩, ⟨by (with_reducible repeat (first | apply Kd.R_alloc | apply Kd.R_drewN | apply Kd.R_drew)); exact HO_5.out⟩, ⟨by repeat (first | (with_reducible first | exact HB.out | apply below_alloc | apply pw_below_drewN | apply below_drew1) | exact HB.out)⟩⟩
        case round =>
          clear H'
          try clear c1
          try clear p1
          try clear q1
          try clear hx1
          try clear p2
          try clear c3
          try clear c3b0
          try clear c4
          try clear c4b0
          try clear c5
          try clear c5b0
          try clear c6
          try clear p6
          try clear hx126_0
          try clear p126
          try clear p2
          try clear q126
          obtain ⟨x5_2, x21_2, rfl, HA, HK2, HO_5, HB⟩ := hrel
          cases gk with
          | zero => exact absurd HA.out (by simp [laws_pops.l1])
          | succ k2 =>
            have H := HA.out
            clear HA
            simp only [laws_pops.l1] at H
            by_cases c8 : x21_2 < a1
            · rw [if_pos c8] at H
              have c8b0 : decide (x21_2 < a1) = true := decide_eq_true c8
              clear c8
              by_cases c9 : x5_2.length < 5864062014805
              · rw [if_pos c9] at H
                have LMc9 := Aside0.mk c9
                clear c9
                obtain ⟨y130, hy130⟩ : ∃ y_ : List (S40), y_ = (x5_2 ++ [(⟨false, (⟨#[]⟩ : ByteArray)⟩ : S40)]) := ⟨_, rfl⟩
                replace H : (laws_pops.l1 k2 y130 a1 (wrap64 (x21_2 + 1))) = some r := by first | (rw [hy130]; with_reducible exact H) | (have H2_ := (Option.bind_some _ _).symm.trans H; rw [hy130]; with_reducible exact H2_) | (have H2_ := (Option.bind_some _ _).symm.trans H; with_reducible exact H2_) | with_reducible exact H | (rw [hy130]; exact H) | exact H
                have Ny130 := Aside0.mk hy130
                clear hy130
                have H' := Aside0.mk H
                clear H
                go_wp2_with (first | ((with_reducible refine gate_builtin (b := .append) (xs := #[.tmp 23, .tmp 25]) rfl ?_); at_builtin; refine Kd.R_append k40 (w0 := w) w.heap.size rfl (.tmp 23) (.tmp 25) 28 40 (.agg #[(.bool false), (.string ⟨#[]⟩)]) 24 rfl Tryd.underlying28 info40 rfl (by decide) (by omega) u5 x5_2 (⟨false, (⟨#[]⟩ : ByteArray)⟩ : S40) [.bool false, .string (⟨#[]⟩ : ByteArray)] (fun _ => True) (fun _ => False) rfl rfl ?aP (fun _ hk => hk.elim) ?aF ?aO ?aB ?aS ?aL ?_; (case aP => exact k40_mkM _ _ _ (⟨false, (⟨#[]⟩ : ByteArray)⟩ : S40)); (case aB => exact (by repeat (first | (with_reducible first | exact HB.out | apply below_alloc | apply pw_below_drewN | apply below_drew1) | exact HB.out))); (case aF => exact (fun _ _ => trivial)); (case aO => exact (by (with_reducible repeat (first | apply Kd.R_alloc | apply Kd.R_drewN | apply Kd.R_drew)); exact HO_5.out)); (case aS => exact (below_size (by repeat (first | (with_reducible first | exact HB.out | apply below_alloc | apply pw_below_drewN | apply below_drew1) | exact HB.out)))); (case aL => have := LMc9.out; omega); intro v131 w10 ho hb hg hat; rw [← Ny130.out] at ho; have n0_ := Aside0.mk (hb); have n1_ := Aside0.mk (ho); clear HB; clear HO_5; have HB := n0_; have HO132 := n1_; clear n0_ n1_; clear ho hb hg hat))
                go_roundg k2
                case measure => have := HK1.out; have := HK2.out; omega
                case rel => exact ⟨(y130), (wrap64 (x21_2 + 1)), (by first | rfl | (simp; done) | (simp [*]; done)), H', ⟨by have := HK1.out; have := HK2.out; omega⟩, ⟨by (with_reducible repeat (first | apply Kd.R_alloc | apply Kd.R_drewN | apply Kd.R_drew)); exact HO132.out⟩, ⟨by repeat (first | (with_reducible first | exact HB.out | apply below_alloc | apply pw_below_drewN | apply below_drew1) | exact HB.out)⟩⟩
              · rw [if_neg c9] at H
                exact absurd H (by simp)
            · rw [if_neg c8] at H
              have c8b0 : decide (x21_2 < a1) = false := decide_eq_false c8
              clear c8
              obtain rfl := Option.some.inj H
              go_wp2
              go_ret
              exact ⟨_, by first | rfl | (simp [errW_none, errW_some] <;> rfl) | (simp [*, errW_none, errW_some] <;> rfl), by (with_reducible repeat (first | apply Kd.R_alloc | apply Kd.R_drewN | apply Kd.R_drew)); exact HO_5.out, by repeat (first | (with_reducible first | exact HB.out | apply below_alloc | apply pw_below_drewN | apply below_drew1) | exact HB.out)⟩

-- NOT PRINTED: function 30 (dtls_newFragmentBuffer)

-- NOT PRINTED: function 22 (dtls_ZZNewFragments)

-- NOT PRINTED: function 33 (dtls_fragmentBuffer_size)

-- NOT PRINTED: function 46 (binary_bigEndian_Uint16)

-- NOT PRINTED: function 47 (binary_bigEndian_Uint64)

/-! ### protocol_Version_Equal: function 48 -/
def protocol_Version_Equal.f (a0_0 : Int) (a0_1 : Int) (a1_0 : Int) (a1_1 : Int) : Option (Bool) := if a0_0 = a1_0 then (some (a0_1 == a1_1)) else (some false)
set_option maxHeartbeats 8000000 in
set_option maxRecDepth 100000 in
theorem protocol_Version_Equal.calls (a0_0 : Int) (a0_1 : Int) (a1_0 : Int) (a1_1 : Int) (r : Bool) (w : World) (h : protocol_Version_Equal.f a0_0 a0_1 a1_0 a1_1 = some r) :
    Calls Tryd.prog 48 #[.agg #[.int .u8 a0_0, .int .u8 a0_1], .agg #[.int .u8 a1_0, .int .u8 a1_1]] w fun e w' => e = .returned (.bool r) ∧ Below w.heap.size w w' := by
  have hu89 := Tryd.underlying89
  have HB := Aside0.mk (Below.refl w.heap.size w)
  have H : (if a0_0 = a1_0 then (some (a0_1 == a1_1)) else (some false)) = some r := h
  clear h
  by_cases c3 : a0_0 = a1_0
  · rw [if_pos c3] at H
    have c3b0 : (a0_0 == a1_0) = true := beq_iff_eq.mpr c3
    have c3b1 : (a0_0 != a1_0) = false := bne_eq_false_iff_eq.mpr c3
    clear c3
    obtain rfl := Option.some.inj H
    go_enter Tryd.func48, Tryd.ntmps48
    go_wp2_with (first | ((with_reducible refine gate_dst (N := 2) rfl ?_); refine box_event ?hg (N := 2) ?hd (cs := #[.int .u8 a0_0, .int .u8 a0_1]) (t := 89) ?hr ?_; (case hd => rfl); (case hg => rfl); (case hr => first | (go_simp; done) | (go_simp; rfl)); intro gb133 hg w4 hbox hb; have n0_ := Aside0.mk (below_step (by repeat (first | (with_reducible first | exact HB.out | apply below_alloc | apply pw_below_drewN | apply below_drew1) | exact HB.out)) hb); have n1_ := Aside0.mk (hbox); have n2_ := Aside0.mk ((by rw [hg]; exact (below_size (by repeat (first | (with_reducible first | exact HB.out | apply below_alloc | apply pw_below_drewN | apply below_drew1) | exact HB.out))) : w.heap.size ≤ gb133)); have n3_ := Aside0.mk ((by rw [hg]; exact (below_size (by repeat (first | (with_reducible first | exact HB.out | apply below_alloc | apply pw_below_drewN | apply below_drew1) | exact HB.out))) : w.heap.size ≤ gb133)); clear HB; have HB := n0_; have BK133 := n1_; have GW133 := n2_; have GE133 := n3_; clear n0_ n1_ n2_ n3_; clear hb hbox hg) | ((with_reducible refine gate_dst (N := 3) rfl ?_); refine box_event ?hg (N := 3) ?hd (cs := #[.int .u8 a1_0, .int .u8 a1_1]) (t := 89) ?hr ?_; (case hd => rfl); (case hg => rfl); (case hr => first | (go_simp; done) | (go_simp; rfl)); intro gb134 hg w5 hbox hb; have n0_ := Aside0.mk (blk_below (g := gb133) (o := .cells #[.int .u8 a0_0, .int .u8 a0_1] 89 (0, 0)) (by (with_reducible repeat (first | refine blk_drewN ?_ _ | refine blk_drew ?_ | refine blk_alloc ?_ _)); exact BK133.out) hb); have n1_ := Aside0.mk (below_step (by repeat (first | (with_reducible first | exact HB.out | apply below_alloc | apply pw_below_drewN | apply below_drew1 | refine below_set ?_ GE133.out) | exact HB.out)) hb); have n2_ := Aside0.mk (hbox); have n3_ := Aside0.mk ((by rw [hg]; exact (below_size (by repeat (first | (with_reducible first | exact HB.out | apply below_alloc | apply pw_below_drewN | apply below_drew1 | refine below_set ?_ GE133.out) | exact HB.out))) : w.heap.size ≤ gb134)); have n4_ := Aside0.mk ((by rw [hg]; exact (below_size (by repeat (first | (with_reducible first | exact HB.out | apply below_alloc | apply pw_below_drewN | apply below_drew1 | refine below_set ?_ GE133.out) | exact HB.out))) : w.heap.size ≤ gb134)); have n5_ := Aside0.mk ((by rw [hg]; exact Nat.ne_of_lt (blk_lt (g := gb133) (o := .cells #[.int .u8 a0_0, .int .u8 a0_1] 89 (0, 0)) (by (with_reducible repeat (first | refine blk_drewN ?_ _ | refine blk_drew ?_ | refine blk_alloc ?_ _)); exact BK133.out)) : gb133 ≠ gb134)); have n6_ := Aside0.mk ((by rw [hg]; exact Nat.ne_of_gt (blk_lt (g := gb133) (o := .cells #[.int .u8 a0_0, .int .u8 a0_1] 89 (0, 0)) (by (with_reducible repeat (first | refine blk_drewN ?_ _ | refine blk_drew ?_ | refine blk_alloc ?_ _)); exact BK133.out)) : gb134 ≠ gb133)); clear BK133; clear HB; have BK133 := n0_; have HB := n1_; have BK134 := n2_; have GW134 := n3_; have GE134 := n4_; have NB133_134 := n5_; have NB134_133 := n6_; clear n0_ n1_ n2_ n3_ n4_ n5_ n6_; clear hb hbox hg; have hnb6 := NB133_134.out; have hnc6 := NB134_133.out; have hcz7_0 : w5.cell? ⟨gb133, 0, none⟩ = some (.int .u8 a0_0) := (blk_cell BK133.out 0).trans rfl; have hcz7_1 : w5.cell? ⟨gb133, 1, none⟩ = some (.int .u8 a0_1) := (blk_cell BK133.out 1).trans rfl; have hfz7_0 := blk_frozen BK133.out 0; have hfz7_1 := blk_frozen BK133.out 1; have hcz8_0 : w5.cell? ⟨gb134, 0, none⟩ = some (.int .u8 a1_0) := (blk_cell BK134.out 0).trans rfl; have hcz8_1 : w5.cell? ⟨gb134, 1, none⟩ = some (.int .u8 a1_1) := (blk_cell BK134.out 1).trans rfl; have hfz8_0 := blk_frozen BK134.out 0; have hfz8_1 := blk_frozen BK134.out 1))
    go_ret
    exact ⟨by first | rfl | (simp [errW_none, errW_some] <;> rfl) | (simp [*, errW_none, errW_some] <;> rfl), by repeat (first | (with_reducible first | exact HB.out | apply below_alloc | apply pw_below_drewN | apply below_drew1 | refine below_set ?_ GE133.out | refine below_set ?_ GE134.out) | exact HB.out)⟩
  · rw [if_neg c3] at H
    have c3b0 : (a0_0 == a1_0) = false := beq_eq_false_iff_ne.mpr c3
    have c3b1 : (a0_0 != a1_0) = true := bne_iff_ne.mpr c3
    obtain rfl := Option.some.inj H
    go_enter Tryd.func48, Tryd.ntmps48
    go_wp2_with (first | ((with_reducible refine gate_dst (N := 2) rfl ?_); refine box_event ?hg (N := 2) ?hd (cs := #[.int .u8 a0_0, .int .u8 a0_1]) (t := 89) ?hr ?_; (case hd => rfl); (case hg => rfl); (case hr => first | (go_simp; done) | (go_simp; rfl)); intro gb133 hg w9 hbox hb; have n0_ := Aside0.mk (below_step (by repeat (first | (with_reducible first | exact HB.out | apply below_alloc | apply pw_below_drewN | apply below_drew1) | exact HB.out)) hb); have n1_ := Aside0.mk (hbox); have n2_ := Aside0.mk ((by rw [hg]; exact (below_size (by repeat (first | (with_reducible first | exact HB.out | apply below_alloc | apply pw_below_drewN | apply below_drew1) | exact HB.out))) : w.heap.size ≤ gb133)); have n3_ := Aside0.mk ((by rw [hg]; exact (below_size (by repeat (first | (with_reducible first | exact HB.out | apply below_alloc | apply pw_below_drewN | apply below_drew1) | exact HB.out))) : w.heap.size ≤ gb133)); clear HB; have HB := n0_; have BK133 := n1_; have GW133 := n2_; have GE133 := n3_; clear n0_ n1_ n2_ n3_; clear hb hbox hg) | ((with_reducible refine gate_dst (N := 3) rfl ?_); refine box_event ?hg (N := 3) ?hd (cs := #[.int .u8 a1_0, .int .u8 a1_1]) (t := 89) ?hr ?_; (case hd => rfl); (case hg => rfl); (case hr => first | (go_simp; done) | (go_simp; rfl)); intro gb134 hg w10 hbox hb; have n0_ := Aside0.mk (blk_below (g := gb133) (o := .cells #[.int .u8 a0_0, .int .u8 a0_1] 89 (0, 0)) (by (with_reducible repeat (first | refine blk_drewN ?_ _ | refine blk_drew ?_ | refine blk_alloc ?_ _)); exact BK133.out) hb); have n1_ := Aside0.mk (below_step (by repeat (first | (with_reducible first | exact HB.out | apply below_alloc | apply pw_below_drewN | apply below_drew1 | refine below_set ?_ GE133.out) | exact HB.out)) hb); have n2_ := Aside0.mk (hbox); have n3_ := Aside0.mk ((by rw [hg]; exact (below_size (by repeat (first | (with_reducible first | exact HB.out | apply below_alloc | apply pw_below_drewN | apply below_drew1 | refine below_set ?_ GE133.out) | exact HB.out))) : w.heap.size ≤ gb134)); have n4_ := Aside0.mk ((by rw [hg]; exact (below_size (by repeat (first | (with_reducible first | exact HB.out | apply below_alloc | apply pw_below_drewN | apply below_drew1 | refine below_set ?_ GE133.out) | exact HB.out))) : w.heap.size ≤ gb134)); have n5_ := Aside0.mk ((by rw [hg]; exact Nat.ne_of_lt (blk_lt (g := gb133) (o := .cells #[.int .u8 a0_0, .int .u8 a0_1] 89 (0, 0)) (by (with_reducible repeat (first | refine blk_drewN ?_ _ | refine blk_drew ?_ | refine blk_alloc ?_ _)); exact BK133.out)) : gb133 ≠ gb134)); have n6_ := Aside0.mk ((by rw [hg]; exact Nat.ne_of_gt (blk_lt (g := gb133) (o := .cells #[.int .u8 a0_0, .int .u8 a0_1] 89 (0, 0)) (by (with_reducible repeat (first | refine blk_drewN ?_ _ | refine blk_drew ?_ | refine blk_alloc ?_ _)); exact BK133.out)) : gb134 ≠ gb133)); clear BK133; clear HB; have BK133 := n0_; have HB := n1_; have BK134 := n2_; have GW134 := n3_; have GE134 := n4_; have NB133_134 := n5_; have NB134_133 := n6_; clear n0_ n1_ n2_ n3_ n4_ n5_ n6_; clear hb hbox hg; have hnb11 := NB133_134.out; have hnc11 := NB134_133.out; have hcz12_0 : w10.cell? ⟨gb133, 0, none⟩ = some (.int .u8 a0_0) := (blk_cell BK133.out 0).trans rfl; have hcz12_1 : w10.cell? ⟨gb133, 1, none⟩ = some (.int .u8 a0_1) := (blk_cell BK133.out 1).trans rfl; have hfz12_0 := blk_frozen BK133.out 0; have hfz12_1 := blk_frozen BK133.out 1; have hcz13_0 : w10.cell? ⟨gb134, 0, none⟩ = some (.int .u8 a1_0) := (blk_cell BK134.out 0).trans rfl; have hcz13_1 : w10.cell? ⟨gb134, 1, none⟩ = some (.int .u8 a1_1) := (blk_cell BK134.out 1).trans rfl; have hfz13_0 := blk_frozen BK134.out 0; have hfz13_1 := blk_frozen BK134.out 1))
    go_ret
    exact ⟨by first | rfl | (simp [errW_none, errW_some] <;> rfl) | (simp [*, errW_none, errW_some] <;> rfl), by repeat (first | (with_reducible first | exact HB.out | apply below_alloc | apply pw_below_drewN | apply below_drew1 | refine below_set ?_ GE133.out | refine below_set ?_ GE134.out) | exact HB.out)⟩

-- NOT PRINTED: function 39 (recordlayer_Header_Unmarshal)

-- NOT PRINTED: function 57 (binary_bigEndian_Uint32)

-- NOT PRINTED: function 49 (util_BigEndianUint24)

-- NOT PRINTED: function 40 (handshake_Header_Unmarshal)

/-! ### dtls_fragmentRange_end: function 43 -/
def dtls_fragmentRange_end.f (a0_0 : Int) (l0_1 : List Int) : Option (Int) := some ((a0_0 + (((l0_1.length : Int)) % 4294967296)) % 4294967296)
set_option maxHeartbeats 8000000 in
set_option maxRecDepth 100000 in
theorem dtls_fragmentRange_end.calls (a0_0 : Int) (A0_1 : Option Addr) (c0_1 : Nat) (l0_1 : List Int) (r : Int) (w : World) (hr0_1 : Kd.C (Kd.int .u8) w A0_1 l0_1.length l0_1) (hc0_1 : l0_1.length ≤ c0_1) (h : dtls_fragmentRange_end.f a0_0 l0_1 = some r) :
    Calls Tryd.prog 43 #[.agg #[.int .u32 a0_0, .slice A0_1 l0_1.length c0_1]] w fun e w' => e = .returned (.int .u32 r) ∧ Below w.heap.size w w' := by
  have hu107 := Tryd.underlying107
  have HR0_1 := Aside0.mk hr0_1
  have HC0_1 := Aside0.mk hc0_1
  clear hr0_1 hc0_1
  have HB := Aside0.mk (Below.refl w.heap.size w)
  have H : (some ((a0_0 + (((l0_1.length : Int)) % 4294967296)) % 4294967296)) = some r := h
  clear h
  obtain rfl := Option.some.inj H
  go_enter Tryd.func43, Tryd.ntmps43
  go_wp2_with (first | ((with_reducible refine gate_dst (N := 1) rfl ?_); refine box_event ?hg (N := 1) ?hd (cs := #[.int .u32 a0_0, .slice A0_1 l0_1.length c0_1]) (t := 107) ?hr ?_; (case hd => rfl); (case hg => rfl); (case hr => first | (go_simp; done) | (go_simp; rfl)); intro gb142 hg w2 hbox hb; have n0_ := Aside0.mk (below_step (by repeat (first | (with_reducible first | exact HB.out | apply below_alloc | apply pw_below_drewN | apply below_drew1) | exact HB.out)) hb); have n1_ := Aside0.mk (hbox); have n2_ := Aside0.mk ((by rw [hg]; exact (below_size (by repeat (first | (with_reducible first | exact HB.out | apply below_alloc | apply pw_below_drewN | apply below_drew1) | exact HB.out))) : w.heap.size ≤ gb142)); have n3_ := Aside0.mk ((by rw [hg]; exact (below_size (by repeat (first | (with_reducible first | exact HB.out | apply below_alloc | apply pw_below_drewN | apply below_drew1) | exact HB.out))) : w.heap.size ≤ gb142)); clear HB; have HB := n0_; have BK142 := n1_; have GW142 := n2_; have GE142 := n3_; clear n0_ n1_ n2_ n3_; clear hb hbox hg; have hcz3_0 : w2.cell? ⟨gb142, 0, none⟩ = some (.int .u32 a0_0) := (blk_cell BK142.out 0).trans rfl; have hcz3_1 : w2.cell? ⟨gb142, 1, none⟩ = some (.slice A0_1 l0_1.length c0_1) := (blk_cell BK142.out 1).trans rfl; have hfz3_0 := blk_frozen BK142.out 0; have hfz3_1 := blk_frozen BK142.out 1))
  go_ret
  exact ⟨by first | rfl | (simp [errW_none, errW_some] <;> rfl) | (simp [*, errW_none, errW_some] <;> rfl), by repeat (first | (with_reducible first | exact HB.out | apply below_alloc | apply pw_below_drewN | apply below_drew1 | refine below_set ?_ GE142.out) | exact HB.out)⟩

-- NOT PRINTED: function 50 (sort_Search)

-- NOT PRINTED: function 52 (dtls_fragments_covers)

-- NOT PRINTED: function 59 (dtls_fragmentRange_59)

-- NOT PRINTED: function 64 (dtls_fragmentRange_64)

-- NOT PRINTED: function 63 (dtls_fragmentRange_63)

-- NOT PRINTED: function 60 (dtls_fragmentRange_60)

-- NOT PRINTED: function 58 (dtls_fragmentRange_58)

-- NOT PRINTED: function 61 (dtls_fragmentRange_61)

-- NOT PRINTED: function 53 (dtls_fragmentRange_53)

-- NOT PRINTED: function 54 (dtls_fragments_advanceCovered)

-- NOT PRINTED: function 41 (dtls_fragments_add)

-- NOT PRINTED: function 31 (dtls_fragmentBuffer_push)

-- NOT PRINTED: function 23 (dtls_ZZFragments_Push)

-- NOT PRINTED: function 62 (binary_bigEndian_PutUint32)

-- NOT PRINTED: function 55 (util_PutBigEndianUint24)

-- NOT PRINTED: function 56 (binary_bigEndian_PutUint16)

-- NOT PRINTED: function 42 (handshake_Header_Marshal)

-- NOT PRINTED: function 32 (dtls_fragmentBuffer_pop)

-- NOT PRINTED: function 24 (dtls_ZZFragments_Pop)

-- NOT PRINTED: function 25 (dtls_ZZFragments_Size)

-- GIVEN: function 13 (impl_Fragments)

/-! ### laws_whole: function 15 -/
def laws_whole.f (k : Nat) (a0 : Int) (a1 : Int) (a2 : ByteArray) : Option (ByteArray) := (laws_piece.f k a0 a1 a2 0 (a2.size : Int)).bind fun t181 => (some t181)
theorem laws_whole.mono : ∀ a0 a1 a2 k, LeO (laws_whole.f k a0 a1 a2) (laws_whole.f (k + 1) a0 a1 a2) := by
  intro a0 a1 a2 k
  unfold laws_whole.f
  repeat' first
      | (with_reducible exact laws_piece.mono _ _ _ _ _ _)
      | (with_reducible exact LeO.refl _)
      | (with_reducible exact LeO.none _)
      | (with_reducible refine LeO.ite ?_ ?_)
      | (with_reducible refine LeO.bind ?_ (fun _ => ?_))
      | exact laws_piece.mono _ _ _ _ _ _
      | exact LeO.none _
      | refine LeO.ite ?_ ?_
      | refine LeO.bind ?_ (fun _ => ?_)
set_option maxHeartbeats 8000000 in
set_option maxRecDepth 100000 in
theorem laws_whole.calls (k : Nat) (a0 : Int) (a1 : Int) (a2 : ByteArray) (r : ByteArray) (w : World) (h : laws_whole.f k a0 a1 a2 = some r) :
    Calls Tryd.prog 15 #[.int .u8 a0, .int .i64 a1, .string a2] w fun e w' => e = .returned (.string r) ∧ Below w.heap.size w w' := by
  have HB := Aside0.mk (Below.refl w.heap.size w)
  have H : ((laws_piece.f k a0 a1 a2 0 (a2.size : Int)).bind fun t181 => (some t181)) = some r := h
  clear h
  replace H := Option.bind_eq_some_iff.mp H
  obtain ⟨t181, A40, H⟩ := H
  replace H : (some t181) = some r := H
  have A4 := Aside0.mk A40
  clear A40
  obtain rfl := Option.some.inj H
  go_enter Tryd.func15, Tryd.ntmps15
  go_wp2_with (first | ((with_reducible refine gate_callee (f := 19) rfl ?_); refine goesL_ (some 12) rfl rfl Tryd.func19 (by kernel_rfl) rfl #[.int .u8 a0, .int .i64 a1, .string a2, .int .i64 0, .int .i64 (a2.size : Int)] rfl (by (try simp only [List.map_toArray, List.map_cons, List.map_nil]); first | done | rfl | (simp only [List.length_drop, List.length_take]; rfl)) ?_; (with_reducible refine (laws_piece.calls k a0 a1 a2 0 (a2.size : Int) t181 _ A4.out).mono ?_); rintro e w5 ⟨rfl, hb⟩; refine ⟨_, rfl, ?_⟩; have n0_ := Aside0.mk (below_step (by repeat (first | (with_reducible first | exact HB.out | apply below_alloc | apply pw_below_drewN | apply below_drew1) | exact HB.out)) hb); clear HB; have HB := n0_; clear n0_; (try clear hb); (try clear hb2); (try clear hk); (try clear hi)))
  go_ret
  exact ⟨by first | rfl | (simp [errW_none, errW_some] <;> rfl) | (simp [*, errW_none, errW_some] <;> rfl), by repeat (first | (with_reducible first | exact HB.out | apply below_alloc | apply pw_below_drewN | apply below_drew1) | exact HB.out)⟩

-- NOT PRINTED: function 5 (laws_FnOldPieces)

/-! ### laws_within: function 20 -/
def laws_within.f (a0 : Int) (a1 : Int) : Option (Int) := if a1 = 0 then (none) else (if (Int.tmod a0 a1) < 0 then (some (wrap64 ((Int.tmod a0 a1) + a1))) else (some (Int.tmod a0 a1)))
set_option maxHeartbeats 8000000 in
set_option maxRecDepth 100000 in
theorem laws_within.calls (a0 : Int) (a1 : Int) (r : Int) (w : World) (h : laws_within.f a0 a1 = some r) :
    Calls Tryd.prog 20 #[.int .i64 a0, .int .i64 a1] w fun e w' => e = .returned (.int .i64 r) ∧ Drawn0 w w' := by
  have H : (if a1 = 0 then (none) else (if (Int.tmod a0 a1) < 0 then (some (wrap64 ((Int.tmod a0 a1) + a1))) else (some (Int.tmod a0 a1)))) = some r := h
  clear h
  by_cases c3 : a1 = 0
  · rw [if_pos c3] at H
    exact absurd H (by simp)
  · rw [if_neg c3] at H
    have c3b0 : (a1 == 0) = false := beq_eq_false_iff_ne.mpr c3
    have c3b1 : (a1 != 0) = true := bne_iff_ne.mpr c3
    by_cases c4 : (Int.tmod a0 a1) < 0
    · rw [if_pos c4] at H
      have c4b0 : decide ((Int.tmod a0 a1) < 0) = true := decide_eq_true c4
      clear c4
      obtain rfl := Option.some.inj H
      go_enter Tryd.func20, Tryd.ntmps20
      go_wp2
      go_ret
      exact ⟨by first | rfl | (simp; done) | (simp [*]; done), by repeat (first | exact Drawn0.refl _ | apply Drawn0.step)⟩
    · rw [if_neg c4] at H
      have c4b0 : decide ((Int.tmod a0 a1) < 0) = false := decide_eq_false c4
      clear c4
      obtain rfl := Option.some.inj H
      go_enter Tryd.func20, Tryd.ntmps20
      go_wp2
      go_ret
      exact ⟨by first | rfl | (simp; done) | (simp [*]; done), by repeat (first | exact Drawn0.refl _ | apply Drawn0.step)⟩

end Go.Proofs.YtblmbbllfiigmaaDoor.PAll
