-- Printed by a program, out of the translation.
import Derived.Test.YtblmbbllfiigmaaDoorPAllx0
import Derived.Test.YtblmbbllfiigmaaDoorPAllx3
namespace Go.Proofs.YtblmbbllfiigmaaDoor.PAll
open Go.RowKit Go.Proofs.YtblmbbllfiigmaaDoorW.PrintWords Go.Proofs.YtblmbbllfiigmaaDoorW.PrintLast Go.Proofs.YtblmbbllfiigmaaDoorW.PrintMore
attribute [local go_sem] max2_int min2_int max_two min_two max_three min_three max_four min_four   -- for this text's walks alone
set_option linter.unusedVariables false
set_option linter.unusedSimpArgs false

/-! ### laws_shuffle: function 9 -/
def laws_shuffle.l0 : Nat → List Int → List ByteArray → Int → Option (List ByteArray)
  | 0, _, _, _ => none
  | k + 1, x1, x5, x6 => if x6 > 0 then (if x6 < (x1.length : Int) then (if 0 ≤ x6 then ((laws_within.f (rd x1 x6) (wrap64 (x6 + 1))).bind fun t236 => (if 0 ≤ t236 then (if t236 < (x5.length : Int) then (if x6 < (x5.length : Int) then (laws_shuffle.l0 k x1 ((x5.set (x6 : Int).toNat (rdOf ByteArray.empty x5 t236)).set (t236 : Int).toNat (rdOf ByteArray.empty x5 x6)) (wrap64 (x6 - 1))) else (none)) else (none)) else (none))) else (none)) else (if 0 ≤ x6 then (if x6 < (x5.length : Int) then (laws_shuffle.l0 k x1 ((x5.set (x6 : Int).toNat (rdOf ByteArray.empty x5 x6)).set (x6 : Int).toNat (rdOf ByteArray.empty x5 x6)) (wrap64 (x6 - 1))) else (none)) else (none))) else (some x5)
def laws_shuffle.f (k : Nat) (l0 : List ByteArray) (l1 : List Int) : Option (List ByteArray) := (some (([] : List ByteArray) : List ByteArray)).bind fun y229 => (if y229.length + l0.length < 8796093022208 then ((some (y229 ++ l0 : List ByteArray)).bind fun y232 => (laws_shuffle.l0 k l1 y232 (wrap64 ((y232.length : Int) - 1)))) else (none))
def laws_shuffle.T8 : Bool × List (List Nat × List Nat) := (true, [([], []), ([], []), ([], []), ([], []), ([], []), ([], []), ([4, 5], [4, 5]), ([6], [6]), ([], []), ([], []), ([8, 9], [8, 9]), ([10], [10]), ([0, 1, 0, 1, 4, 5, 6, 7, 11], [0, 1]), ([12, 7, 0, 1, 4, 5, 6, 7, 11], [7, 12]), ([2, 3, 0, 1, 2, 3, 4, 5, 6, 7, 8, 9, 10, 11, 12, 13], [2, 3]), ([14, 11, 13, 0, 1, 2, 3, 4, 5, 6, 7, 8, 9, 10, 11, 12, 13], [11, 14])])
def laws_shuffle.B8 : List Nat := [0, 0, 0, 0, 0, 0, 48, 112, 0, 0, 768, 1792, 4083, 8179, 16383, 32767]
theorem laws_shuffle.tab8 : rtab .any (opsOf Tryd.f9 8) = laws_shuffle.T8 := by kernel_rfl
theorem laws_shuffle.bits8 : waitsOk laws_shuffle.T8.2 laws_shuffle.B8 = true := by kernel_rfl
set_option maxHeartbeats 8000000 in
set_option maxRecDepth 100000 in
theorem laws_shuffle.calls (k : Nat) (A0 : Option Addr) (c0 : Nat) (l0 : List ByteArray) (A1 : Option Addr) (c1 : Nat) (l1 : List Int) (r : List ByteArray) (w : World) (hr0 : Kd.C Kd.string w A0 l0.length l0) (hc0 : l0.length ≤ c0) (hr1 : Kd.C (Kd.int .i64) w A1 l1.length l1) (hc1 : l1.length ≤ c1) (h : laws_shuffle.f k l0 l1 = some r) :
    Calls Tryd.prog 9 #[.slice A0 l0.length c0, .slice A1 l1.length c1] w fun e w' => ∃ v0_ : Value, e = .returned (v0_) ∧ Kd.R Kd.string 9 w' w.heap.size (fun _ => True) v0_ r ∧ Below w.heap.size w w' := by
 have HR0 := Aside0.mk hr0
 have HC0 := Aside0.mk hc0
 clear hr0 hc0
 have HR1 := Aside0.mk hr1
 have HC1 := Aside0.mk hc1
 clear hr1 hc1
 have HB := Aside0.mk (Below.refl w.heap.size w)
 have H : ((some (([] : List ByteArray) : List ByteArray)).bind fun y229 => (if y229.length + l0.length < 8796093022208 then ((some (y229 ++ l0 : List ByteArray)).bind fun y232 => (laws_shuffle.l0 k l1 y232 (wrap64 ((y232.length : Int) - 1)))) else (none))) = some r := h
 clear h
 obtain ⟨y229, hy229⟩ : ∃ y_ : List ByteArray, y_ = (([] : List ByteArray)) := ⟨_, rfl⟩
 replace H : (if y229.length + l0.length < 8796093022208 then ((some (y229 ++ l0 : List ByteArray)).bind fun y232 => (laws_shuffle.l0 k l1 y232 (wrap64 ((y232.length : Int) - 1)))) else (none)) = some r := by first | (rw [hy229]; with_reducible exact H) | (have H2_ := (Option.bind_some _ _).symm.trans H; rw [hy229]; with_reducible exact H2_) | (have H2_ := (Option.bind_some _ _).symm.trans H; with_reducible exact H2_) | with_reducible exact H | (rw [hy229]; exact H) | exact H
 have Ny229 := Aside0.mk hy229
 clear hy229
 by_cases c3 : y229.length + l0.length < 8796093022208
 rotate_left
 ·rw [if_neg c3] at H
  exact absurd H (by simp)
 rw [if_pos c3] at H
 have LMc3 := Aside0.mk c3
 clear c3
 obtain ⟨y232, hy232⟩ : ∃ y_ : List ByteArray, y_ = (y229 ++ l0) := ⟨_, rfl⟩
 replace H : (laws_shuffle.l0 k l1 y232 (wrap64 ((y232.length : Int) - 1))) = some r := by first | (rw [hy232]; with_reducible exact H) | (have H2_ := (Option.bind_some _ _).symm.trans H; rw [hy232]; with_reducible exact H2_) | (have H2_ := (Option.bind_some _ _).symm.trans H; with_reducible exact H2_) | with_reducible exact H | (rw [hy232]; exact H) | exact H
 have Ny232 := Aside0.mk hy232
 clear hy232
 have H' := Aside0.mk H
 clear H
 go_enter Tryd.func9, Tryd.ntmps9
 go_wp2_with (first | ((with_reducible refine gate_dst (N := 8) rfl ?_); refine Kd.R_lit Kd.string _ 9 ?hg (N := 8) ?hd (xs := ([] : List ByteArray)) (inner := []) (ok := fun _ => True) (okp := fun _ => True) ?hr ?hp (fun _ hk => hk) trivial (Below.refl _ _) (Nat.le_refl _) (by simp) ?_; (case hd => rfl); (case hg => rfl); (case hr => first | (go_simp; done) | (go_simp; rfl)); (case hp => exact (Reps.none _ _)); intro v230 w4 ho5 hb hg_ hnew_; clear hg_ hnew_; (first | rw [← Ny229.out] at ho5 | (simp only [Int.reduceToNat] at ho5; rw [← Ny229.out] at ho5)); have n0_ := Aside0.mk (Kd.R_lower ho5 (below_size (by repeat (first | (with_reducible first | exact HB.out | apply below_alloc | apply pw_below_drewN | apply below_drew1) | exact HB.out)))); have n1_ := Aside0.mk (below_step (by repeat (first | (with_reducible first | exact HB.out | apply below_alloc | apply pw_below_drewN | apply below_drew1) | exact HB.out)) hb); clear HB; have HO231 := n0_; have HB := n1_; clear n0_ n1_; clear hb ho5) | ((with_reducible refine gate_builtin (b := .append) (xs := #[.tmp 8, .tmp 9]) rfl ?_); at_builtin; refine Kd.R_append_rows Kd.string (w0 := w) w.heap.size rfl (.tmp 8) (.tmp 9) 24 9 (.string ⟨#[]⟩) 16 rfl Tryd.underlying24 info9 rfl (by decide) (by omega) v230 y229 l0 _ _ _ (fun _ => True) (fun _ => False) rfl rfl ?aO ?aR (fun _ _ h => h) (fun _ h => h.elim) ?aF ?aB ?aS ?aL ?_; (case aR => repeat (first | exact (Kd.C_below HR0.out HB.out) | (with_reducible refine Kd.C_alloc ?_ _) | (with_reducible refine Kd.C_drewN ?_ _) | (with_reducible refine Kd.C_drew ?_))); (case aB => exact (by repeat (first | (with_reducible first | exact HB.out | apply below_alloc | apply pw_below_drewN | apply below_drew1) | exact HB.out))); (case aF => exact (fun _ _ => trivial)); (case aO => exact (by (with_reducible repeat (first | apply Kd.R_alloc | apply Kd.R_drewN | apply Kd.R_drew)); exact HO231.out)); (case aS => exact (below_size (by repeat (first | (with_reducible first | exact HB.out | apply below_alloc | apply pw_below_drewN | apply below_drew1) | exact HB.out)))); (case aL => have := LMc3.out; omega); intro v233 w6 ho hb hg hat; rw [← Ny232.out] at ho; have n0_ := Aside0.mk (hb); have n1_ := Aside0.mk (ho); clear HB; clear HO231; have HB := n0_; have HO234 := n1_; clear n0_ n1_; clear ho hb hg hat; obtain ⟨Ao7, co7, eo7⟩ := Kd.R_slice HO234.out; subst eo7))
 go_loopg [6] k (fun kq v6 w' => ∃ (x5_1 : List ByteArray) (x6_1 : Int), v6 = .int .i64 x6_1 ∧ Aside0 (laws_shuffle.l0 kq l1 x5_1 x6_1 = some r) ∧ Aside0 (kq ≤ k) ∧ Aside0 (Kd.R Kd.string 9 w' w.heap.size (fun _ => True) (.slice Ao7 y232.length co7) x5_1) ∧ Aside0 (Below w.heap.size w w'))
 case atStart => exact ⟨(y232), (wrap64 ((y232.length : Int) - 1)), (by first | rfl | (simp; done) | (simp [*]; done)), H', ⟨Nat.le_refl _⟩, ⟨by (with_reducible repeat (first | apply Kd.R_alloc | apply Kd.R_drewN | apply Kd.R_drew)); exact HO234.out⟩, ⟨by repeat (first | (with_reducible first | exact HB.out | apply below_alloc | apply pw_below_drewN | apply below_drew1) | exact HB.out)⟩⟩
 case round =>
  clear H'
  try clear c1
  try clear p2
  try clear c3
  try clear p6
  obtain ⟨x5_1, x6_1, rfl, HA, HK1, HO_5, HB⟩ := hrel
  have hl5_1 := (Kd.R_reads' HO_5.out).1
  rw [hl5_1] at HO_5
  (try simp only [hl5_1])
  cases gk with
  | zero => exact absurd HA.out (by simp [laws_shuffle.l0])
  | succ k1 =>
   have H := HA.out
   clear HA
   simp only [laws_shuffle.l0] at H
   by_cases c8 : x6_1 > 0
   rotate_left
   ·rw [if_neg c8] at H
    have c8b0 : decide (0 < x6_1) = false := decide_eq_false c8
    clear c8
    obtain rfl := Option.some.inj H
    go_wp2
    go_ret
    exact ⟨_, by first | rfl | (simp [errW_none, errW_some] <;> rfl) | (simp [*, errW_none, errW_some] <;> rfl), by (with_reducible repeat (first | apply Kd.R_alloc | apply Kd.R_drewN | apply Kd.R_drew)); exact HO_5.out, by repeat (first | (with_reducible first | exact HB.out | apply below_alloc | apply pw_below_drewN | apply below_drew1) | exact HB.out)⟩
   rw [if_pos c8] at H
   have c8b0 : decide (0 < x6_1) = true := decide_eq_true c8
   clear c8
   by_cases c9 : x6_1 < (l1.length : Int)
   rotate_left
   ·rw [if_neg c9] at H
    have c9b0 : decide (x6_1 < (l1.length : Int)) = false := decide_eq_false c9
    clear c9
    by_cases c20 : 0 ≤ x6_1
    rotate_left
    ·rw [if_neg c20] at H
     exact absurd H (by simp)
    rw [if_pos c20] at H
    have c20b0 : decide (0 ≤ x6_1) = true := decide_eq_true c20
    clear c20
    by_cases c21 : x6_1 < (x5_1.length : Int)
    rotate_left
    ·rw [if_neg c21] at H
     exact absurd H (by simp)
    rw [if_pos c21] at H
    have c21b0 : decide (x6_1 < (x5_1.length : Int)) = true := decide_eq_true c21
    clear c21
    obtain ⟨y243, hy243⟩ : ∃ y_ : List ByteArray, y_ = (x5_1.set (x6_1 : Int).toNat (rdOf ByteArray.empty x5_1 x6_1)) := ⟨_, rfl⟩
    replace H : (laws_shuffle.l0 k1 l1 (y243.set (x6_1 : Int).toNat (rdOf ByteArray.empty x5_1 x6_1)) (wrap64 (x6_1 - 1))) = some r := by first | (rw [hy243]; with_reducible exact H) | (have H2_ := (Option.bind_some _ _).symm.trans H; rw [hy243]; with_reducible exact H2_) | (have H2_ := (Option.bind_some _ _).symm.trans H; with_reducible exact H2_) | with_reducible exact H | (rw [hy243]; exact H) | exact H
    have Ny243 := Aside0.mk hy243
    clear hy243
    obtain ⟨y244, hy244⟩ : ∃ y_ : List ByteArray, y_ = (y243.set (x6_1 : Int).toNat (rdOf ByteArray.empty x5_1 x6_1)) := ⟨_, rfl⟩
    replace H : (laws_shuffle.l0 k1 l1 y244 (wrap64 (x6_1 - 1))) = some r := by first | (rw [hy244]; with_reducible exact H) | (have H2_ := (Option.bind_some _ _).symm.trans H; rw [hy244]; with_reducible exact H2_) | (have H2_ := (Option.bind_some _ _).symm.trans H; with_reducible exact H2_) | with_reducible exact H | (rw [hy244]; exact H) | exact H
    have Ny244 := Aside0.mk hy244
    clear hy244
    have H' := Aside0.mk H
    clear H
    try go_wp2
    have n0_ := Aside0.mk (Kd.R_drew HO_5.out)
    have n1_ := Aside0.mk (below_drew1 HB.out)
    clear HO_5
    clear HB
    have HO_5 := n0_
    have HB := n1_
    clear n0_ n1_
    have p241 : 0 ≤ (x6_1 : Int) := of_decide_eq_true (by first | (with_reducible assumption) | assumption)
    have q241 : x6_1 < (x5_1.length : Int) := of_decide_eq_true (by first | (with_reducible assumption) | assumption)
    obtain ⟨ad241, e241, hx241_0⟩ := Kd.at_string (Kd.R_reads' HO_5.out).2.2 x6_1 p241 q241
    cases e241
    replace p241 := eq_true p241
    replace q241 := eq_true q241
    have p242 : 0 ≤ (x6_1 : Int) := of_decide_eq_true (by first | (with_reducible assumption) | assumption)
    have q242 : x6_1 < (x5_1.length : Int) := of_decide_eq_true (by first | (with_reducible assumption) | assumption)
    obtain ⟨ad242, e242, hx242_0⟩ := Kd.at_string (Kd.R_reads' HO_5.out).2.2 x6_1 p242 q242
    obtain rfl : ad241 = ad242 := (by injection e242)
    replace p242 := eq_true p242
    replace q242 := eq_true q242
    have p22 : 0 ≤ (x6_1 : Int) := of_decide_eq_true (by first | (with_reducible assumption) | assumption)
    have q22 : (x6_1 : Int) < ((x5_1.length : Int) : Int) := of_decide_eq_true (by first | (with_reducible assumption) | assumption)
    obtain ⟨go22, co22, eo22, gb22, gl22, cl22, HG22⟩ := Kd.R_form HO_5.out (by omega)
    (first | cases eo22 | (injection eo22 with ea_ en_ ec_; (first | subst ea_ | (injection ea_ with ea_; subst ea_)); subst ec_; clear en_))
    have GB22 := Aside0.mk gb22
    have GG22 := Aside0.mk HG22
    clear gb22 gl22 HG22
    (first | simp only [add_plain] at hx241_0 | skip)
    (first | simp only [add_plain] at hx242_0 | skip)
    obtain ⟨hx22_0, hf22_0⟩ := Kd.R_celln (⟨#[]⟩ : ByteArray) HO_5.out (x6_1 : Int) p22 q22
    replace p22 := eq_true p22
    replace q22 := eq_true q22
    have HP25 := Kd.R_putn HO_5.out (x6_1 : Int) (rdOf ByteArray.empty x5_1 x6_1)
    rw [← Ny243.out] at HP25
    have HQ25 := Aside0.mk HP25
    clear HP25
    have p23 : 0 ≤ (x6_1 : Int) := of_decide_eq_true (by first | (with_reducible assumption) | assumption)
    have q23 : (x6_1 : Int) < ((x5_1.length : Int) : Int) := of_decide_eq_true (by first | (with_reducible assumption) | assumption)
    replace p23 := eq_true p23
    replace q23 := eq_true q23
    have HP26 := Kd.R_putn HQ25.out (x6_1 : Int) (rdOf ByteArray.empty x5_1 x6_1)
    rw [← Ny244.out] at HP26
    have HQ26 := Aside0.mk HP26
    clear HP26
    refine start_ (n := 16) (S := fun w' => w'.cell? ⟨go22, (x6_1).toNat, none⟩ = some (.string (rdOf ByteArray.empty x5_1 x6_1)) ∧ w'.cell? ⟨go22, (x6_1).toNat, none⟩ = some (.string (rdOf ByteArray.empty x5_1 x6_1))) (ds := [13, 15]) #[false, false, false, false, false, false, false, false, false, false, false, false, false, false, false, false] (by kernel_rfl) rfl rfl ⟨hx241_0, hx242_0⟩ (fun hHeld => ?_); refine with_tabW laws_shuffle.tab8 laws_shuffle.bits8 (fun HT_ HW_ => ?_)
    generalize wr.drew = w24 at HO_5 HB GG22 HQ25 HQ26 hf22_0 hx22_0 hx241_0 hx242_0 hHeld ⊢
    refine pure_ (i := 0) (N := some 30) (v := ?_) (a' := ?_) #[true, false, false, false, false, false, false, false, false, false, false, false, false, false, false, false] rfl rfl (any_of HT_.out (by kernel_rfl)) (fun _ _ _ h => h) (Or.inl ⟨by rfl, ?_⟩) ?_ ?_
    rotate_left
    ·intro w'
     go_simp
     with_reducible rfl
    rotate_left
    ·simp only [Act.put, List.setIfInBounds_toArray, List.set_cons_zero, List.set_cons_succ, i64_w, i32_w]
     rfl
    refine pure_ (i := 1) (N := some 31) (v := ?_) (a' := ?_) #[true, true, false, false, false, false, false, false, false, false, false, false, false, false, false, false] rfl rfl (any_of HT_.out (by kernel_rfl)) (fun _ _ _ h => h) (Or.inl ⟨by rfl, ?_⟩) ?_ ?_
    rotate_left
    ·intro w'
     go_simp
     with_reducible rfl
    rotate_left
    ·simp only [Act.put, List.setIfInBounds_toArray, List.set_cons_zero, List.set_cons_succ, i64_w, i32_w]
     rfl
    refine pure_ (i := 2) (N := some 32) (v := ?_) (a' := ?_) #[true, true, true, false, false, false, false, false, false, false, false, false, false, false, false, false] rfl rfl (any_of HT_.out (by kernel_rfl)) (fun _ _ _ h => h) (Or.inl ⟨by rfl, ?_⟩) ?_ ?_
    rotate_left
    ·intro w'
     go_simp
     with_reducible rfl
    rotate_left
    ·simp only [Act.put, List.setIfInBounds_toArray, List.set_cons_zero, List.set_cons_succ, i64_w, i32_w]
     rfl
    refine pure_ (i := 3) (N := some 33) (v := ?_) (a' := ?_) #[true, true, true, true, false, false, false, false, false, false, false, false, false, false, false, false] rfl rfl (any_of HT_.out (by kernel_rfl)) (fun _ _ _ h => h) (Or.inl ⟨by rfl, ?_⟩) ?_ ?_
    rotate_left
    ·intro w'
     go_simp
     with_reducible rfl
    rotate_left
    ·simp only [Act.put, List.setIfInBounds_toArray, List.set_cons_zero, List.set_cons_succ, i64_w, i32_w]
     rfl
    refine pure_ (i := 4) (N := some 34) (v := ?_) (a' := ?_) #[true, true, true, true, true, false, false, false, false, false, false, false, false, false, false, false] rfl rfl (any_of HT_.out (by kernel_rfl)) (fun _ _ _ h => h) (Or.inl ⟨by rfl, ?_⟩) ?_ ?_
    rotate_left
    ·intro w'
     go_simp
     with_reducible rfl
    rotate_left
    ·simp only [Act.put, List.setIfInBounds_toArray, List.set_cons_zero, List.set_cons_succ, i64_w, i32_w]
     rfl
    refine pure_ (i := 5) (N := some 35) (v := ?_) (a' := ?_) #[true, true, true, true, true, true, false, false, false, false, false, false, false, false, false, false] rfl rfl (any_of HT_.out (by kernel_rfl)) (fun _ _ _ h => h) (Or.inl ⟨by rfl, ?_⟩) ?_ ?_
    rotate_left
    ·intro w'
     go_simp
     with_reducible rfl
    rotate_left
    ·simp only [Act.put, List.setIfInBounds_toArray, List.set_cons_zero, List.set_cons_succ, i64_w, i32_w]
     rfl
    refine pure_ (i := 6) (N := some 36) (v := ?_) (a' := ?_) #[true, true, true, true, true, true, true, false, false, false, false, false, false, false, false, false] rfl rfl (any_of HT_.out (by kernel_rfl)) (fun _ _ _ h => h) (Or.inl ⟨by rfl, ?_⟩) ?_ ?_
    rotate_left
    ·intro w'
     go_simp
     with_reducible rfl
    rotate_left
    ·simp only [Act.put, List.setIfInBounds_toArray, List.set_cons_zero, List.set_cons_succ, i64_w, i32_w]
     rfl
    refine pure_ (i := 8) (N := some 38) (v := ?_) (a' := ?_) #[true, true, true, true, true, true, true, false, true, false, false, false, false, false, false, false] rfl rfl (any_of HT_.out (by kernel_rfl)) (fun _ _ _ h => h) (Or.inl ⟨by rfl, ?_⟩) ?_ ?_
    rotate_left
    ·intro w'
     go_simp
     with_reducible rfl
    rotate_left
    ·simp only [Act.put, List.setIfInBounds_toArray, List.set_cons_zero, List.set_cons_succ, i64_w, i32_w]
     rfl
    refine pure_ (i := 9) (N := some 39) (v := ?_) (a' := ?_) #[true, true, true, true, true, true, true, false, true, true, false, false, false, false, false, false] rfl rfl (any_of HT_.out (by kernel_rfl)) (fun _ _ _ h => h) (Or.inl ⟨by rfl, ?_⟩) ?_ ?_
    rotate_left
    ·intro w'
     go_simp
     with_reducible rfl
    rotate_left
    ·simp only [Act.put, List.setIfInBounds_toArray, List.set_cons_zero, List.set_cons_succ, i64_w, i32_w]
     rfl
    refine pure_ (i := 10) (N := some 40) (v := ?_) (a' := ?_) #[true, true, true, true, true, true, true, false, true, true, true, false, false, false, false, false] rfl rfl (any_of HT_.out (by kernel_rfl)) (fun _ _ _ h => h) (Or.inl ⟨by rfl, ?_⟩) ?_ ?_
    rotate_left
    ·intro w'
     go_simp
     with_reducible rfl
    rotate_left
    ·simp only [Act.put, List.setIfInBounds_toArray, List.set_cons_zero, List.set_cons_succ, i64_w, i32_w]
     rfl
    refine take_ (i := 7) (N := some 37) (v := ?_) (a' := ?_) #[true, true, true, true, true, true, true, true, true, true, true, false, false, false, false, false] rfl rfl (take_ofW HT_.out HW_.out (by kernel_rfl)) (fun _ _ _ h => h) (Or.inl ⟨by rfl, ?_⟩) hHeld ?_ ?_
    rotate_left
    ·rintro w' ⟨s0, s1⟩
     go_simp
     with_reducible rfl
    rotate_left
    ·simp only [Act.put, List.setIfInBounds_toArray, List.set_cons_zero, List.set_cons_succ, i64_w, i32_w]
     rfl
    refine take_ (i := 11) (N := some 41) (v := ?_) (a' := ?_) #[true, true, true, true, true, true, true, true, true, true, true, true, false, false, false, false] rfl rfl (take_ofW HT_.out HW_.out (by kernel_rfl)) (fun _ _ _ h => h) (Or.inl ⟨by rfl, ?_⟩) hHeld ?_ ?_
    rotate_left
    ·rintro w' ⟨s0, s1⟩
     go_simp
     with_reducible rfl
    rotate_left
    ·simp only [Act.put, List.setIfInBounds_toArray, List.set_cons_zero, List.set_cons_succ, i64_w, i32_w]
     rfl
    refine pure_ (i := 12) (N := some 42) (v := ?_) (a' := ?_) #[true, true, true, true, true, true, true, true, true, true, true, true, true, false, false, false] rfl rfl (any_of HT_.out (by kernel_rfl)) (fun _ _ _ h => h) (Or.inl ⟨by rfl, ?_⟩) ?_ ?_
    rotate_left
    ·intro w'
     go_simp
     with_reducible rfl
    rotate_left
    ·simp only [Act.put, List.setIfInBounds_toArray, List.set_cons_zero, List.set_cons_succ, i64_w, i32_w]
     rfl
    refine last_ (i := 13) (N := none) #[true, true, true, true, true, true, true, true, true, true, true, true, true, true, false, false] rfl rfl (one_of HT_.out (by kernel_rfl)) (by decide) (fun K hK => ?_)
    refine skip_ (w1 := ?_) (by rfl) rfl ?_ ?_
    rotate_left
    ·go_simp
     rfl
    refine hK.out _ _ ?_
    clear hK K
    refine pure_ (i := 14) (N := some 43) (v := ?_) (a' := ?_) #[true, true, true, true, true, true, true, true, true, true, true, true, true, true, true, false] rfl rfl (any_of HT_.out (by kernel_rfl)) (fun _ _ _ h => h) (Or.inl ⟨by rfl, ?_⟩) ?_ ?_
    rotate_left
    ·intro w'
     go_simp
     with_reducible rfl
    rotate_left
    ·simp only [Act.put, List.setIfInBounds_toArray, List.set_cons_zero, List.set_cons_succ, i64_w, i32_w]
     rfl
    refine last_ (i := 15) (N := none) #[true, true, true, true, true, true, true, true, true, true, true, true, true, true, true, true] rfl rfl (one_of HT_.out (by kernel_rfl)) (by decide) (fun K hK => ?_)
    refine skip_ (w1 := ?_) (by rfl) rfl ?_ ?_
    rotate_left
    ·go_simp
     rfl
    refine hK.out _ _ ?_
    clear hK K
    refine done_ (done_of HT_.out (by kernel_rfl)) ?_
    try go_wp2
    (try simp only [← hl5_1])
    go_roundg k1
    case measure => have := HK1.out; omega
    case rel => exact ⟨(y244), (wrap64 (x6_1 - 1)), (by first | rfl | (simp; done) | (simp [*]; done)), H', ⟨by have := HK1.out; omega⟩, ⟨by (try simp only [hl5_1]); (with_reducible repeat (first | apply Kd.R_alloc | apply Kd.R_drewN | apply Kd.R_drew)); exact HQ26.out⟩, ⟨by repeat (first | (with_reducible first | exact HB.out | apply below_alloc | apply pw_below_drewN | apply below_drew1 | refine below_set ?_ GB22.out | refine below_set ?_ GB22.out) | exact HB.out)⟩⟩
   rw [if_pos c9] at H
   have c9b0 : decide (x6_1 < (l1.length : Int)) = true := decide_eq_true c9
   clear c9
   by_cases c10 : 0 ≤ x6_1
   rotate_left
   ·rw [if_neg c10] at H
    exact absurd H (by simp)
   rw [if_pos c10] at H
   have c10b0 : decide (0 ≤ x6_1) = true := decide_eq_true c10
   clear c10
   replace H := Option.bind_eq_some_iff.mp H
   obtain ⟨t236, A110, H⟩ := H
   replace H : (if 0 ≤ t236 then (if t236 < (x5_1.length : Int) then (if x6_1 < (x5_1.length : Int) then (laws_shuffle.l0 k1 l1 ((x5_1.set (x6_1 : Int).toNat (rdOf ByteArray.empty x5_1 t236)).set (t236 : Int).toNat (rdOf ByteArray.empty x5_1 x6_1)) (wrap64 (x6_1 - 1))) else (none)) else (none)) else (none)) = some r := H
   have A11 := Aside0.mk A110
   clear A110
   by_cases c12 : 0 ≤ t236
   rotate_left
   ·rw [if_neg c12] at H
    exact absurd H (by simp)
   rw [if_pos c12] at H
   have c12b0 : decide (0 ≤ t236) = true := decide_eq_true c12
   clear c12
   by_cases c13 : t236 < (x5_1.length : Int)
   rotate_left
   ·rw [if_neg c13] at H
    exact absurd H (by simp)
   rw [if_pos c13] at H
   have c13b0 : decide (t236 < (x5_1.length : Int)) = true := decide_eq_true c13
   clear c13
   by_cases c14 : x6_1 < (x5_1.length : Int)
   rotate_left
   ·rw [if_neg c14] at H
    exact absurd H (by simp)
   rw [if_pos c14] at H
   have c14b0 : decide (x6_1 < (x5_1.length : Int)) = true := decide_eq_true c14
   clear c14
   obtain ⟨y239, hy239⟩ : ∃ y_ : List ByteArray, y_ = (x5_1.set (x6_1 : Int).toNat (rdOf ByteArray.empty x5_1 t236)) := ⟨_, rfl⟩
   replace H : (laws_shuffle.l0 k1 l1 (y239.set (t236 : Int).toNat (rdOf ByteArray.empty x5_1 x6_1)) (wrap64 (x6_1 - 1))) = some r := by first | (rw [hy239]; with_reducible exact H) | (have H2_ := (Option.bind_some _ _).symm.trans H; rw [hy239]; with_reducible exact H2_) | (have H2_ := (Option.bind_some _ _).symm.trans H; with_reducible exact H2_) | with_reducible exact H | (rw [hy239]; exact H) | exact H
   have Ny239 := Aside0.mk hy239
   clear hy239
   obtain ⟨y240, hy240⟩ : ∃ y_ : List ByteArray, y_ = (y239.set (t236 : Int).toNat (rdOf ByteArray.empty x5_1 x6_1)) := ⟨_, rfl⟩
   replace H : (laws_shuffle.l0 k1 l1 y240 (wrap64 (x6_1 - 1))) = some r := by first | (rw [hy240]; with_reducible exact H) | (have H2_ := (Option.bind_some _ _).symm.trans H; rw [hy240]; with_reducible exact H2_) | (have H2_ := (Option.bind_some _ _).symm.trans H; with_reducible exact H2_) | with_reducible exact H | (rw [hy240]; exact H) | exact H
   have Ny240 := Aside0.mk hy240
   clear hy240
   have H' := Aside0.mk H
   clear H
   have p235 : 0 ≤ (x6_1 : Int) := of_decide_eq_true (by first | (with_reducible assumption) | assumption)
   have q235 : x6_1 < (l1.length : Int) := of_decide_eq_true (by first | (with_reducible assumption) | assumption)
   obtain ⟨ad235, e235, hx235_0⟩ := Kd.at_int HR1.out x6_1 p235 q235
   cases e235
   replace hx235_0 := (HB.out.cell (World.block_lt_of_cell? w _ hx235_0)).trans hx235_0
   replace p235 := eq_true p235
   replace q235 := eq_true q235
   try go_wp2_with (first | ((with_reducible refine gate_callee (f := 20) rfl ?_); refine goesL_ (some 29) rfl rfl Tryd.func20 (by kernel_rfl) rfl #[.int .i64 (rd l1 x6_1), .int .i64 (wrap64 (x6_1 + 1))] rfl (by (try simp only [List.map_toArray, List.map_cons, List.map_nil]); first | done | rfl | (simp only [List.length_drop, List.length_take]; rfl)) ?_; (with_reducible refine (laws_within.calls (rd l1 x6_1) (wrap64 (x6_1 + 1)) t236 _ A11.out).mono ?_); rintro e w' ⟨rfl, ⟨nd, rfl⟩⟩; refine ⟨_, rfl, ?_⟩; (try (rw [drewN_self wr]; generalize hq_ : World.drewN wr _ = wr; have n0_ : Aside0 (Kd.R Kd.string 9 wr w.heap.size (fun _ => True) (.slice Ao7 x5_1.length co7) x5_1) := ⟨by rw [← hq_]; exact (by (with_reducible repeat (first | apply Kd.R_alloc | apply Kd.R_drewN | apply Kd.R_drew)); exact HO_5.out)⟩; have n1_ : Aside0 (Below w.heap.size w wr) := ⟨by rw [← hq_]; exact (by repeat (first | (with_reducible first | exact HB.out | apply below_alloc | apply pw_below_drewN | apply below_drew1) | exact HB.out))⟩; clear HO_5 HB hq_; have HO_5 := n0_; have HB := n1_; clear n0_ n1_))))
   have n0_ := Aside0.mk (Kd.R_drew HO_5.out)
   have n1_ := Aside0.mk (below_drew1 HB.out)
   clear HO_5
   clear HB
   have HO_5 := n0_
   have HB := n1_
   clear n0_ n1_
   have p237 : 0 ≤ (t236 : Int) := of_decide_eq_true (by first | (with_reducible assumption) | assumption)
   have q237 : t236 < (x5_1.length : Int) := of_decide_eq_true (by first | (with_reducible assumption) | assumption)
   obtain ⟨ad237, e237, hx237_0⟩ := Kd.at_string (Kd.R_reads' HO_5.out).2.2 t236 p237 q237
   cases e237
   replace p237 := eq_true p237
   replace q237 := eq_true q237
   have p238 : 0 ≤ (x6_1 : Int) := of_decide_eq_true (by first | (with_reducible assumption) | assumption)
   have q238 : x6_1 < (x5_1.length : Int) := of_decide_eq_true (by first | (with_reducible assumption) | assumption)
   obtain ⟨ad238, e238, hx238_0⟩ := Kd.at_string (Kd.R_reads' HO_5.out).2.2 x6_1 p238 q238
   obtain rfl : ad237 = ad238 := (by injection e238)
   replace p238 := eq_true p238
   replace q238 := eq_true q238
   have p15 : 0 ≤ (x6_1 : Int) := of_decide_eq_true (by first | (with_reducible assumption) | assumption)
   have q15 : (x6_1 : Int) < ((x5_1.length : Int) : Int) := of_decide_eq_true (by first | (with_reducible assumption) | assumption)
   obtain ⟨go15, co15, eo15, gb15, gl15, cl15, HG15⟩ := Kd.R_form HO_5.out (by omega)
   (first | cases eo15 | (injection eo15 with ea_ en_ ec_; (first | subst ea_ | (injection ea_ with ea_; subst ea_)); subst ec_; clear en_))
   have GB15 := Aside0.mk gb15
   have GG15 := Aside0.mk HG15
   clear gb15 gl15 HG15
   (first | simp only [add_plain] at hx237_0 | skip)
   (first | simp only [add_plain] at hx238_0 | skip)
   obtain ⟨hx15_0, hf15_0⟩ := Kd.R_celln (⟨#[]⟩ : ByteArray) HO_5.out (x6_1 : Int) p15 q15
   replace p15 := eq_true p15
   replace q15 := eq_true q15
   have HP18 := Kd.R_putn HO_5.out (x6_1 : Int) (rdOf ByteArray.empty x5_1 t236)
   rw [← Ny239.out] at HP18
   have HQ18 := Aside0.mk HP18
   clear HP18
   have p16 : 0 ≤ (t236 : Int) := of_decide_eq_true (by first | (with_reducible assumption) | assumption)
   have q16 : (t236 : Int) < ((x5_1.length : Int) : Int) := of_decide_eq_true (by first | (with_reducible assumption) | assumption)
   obtain ⟨hx16_0, hf16_0⟩ := Kd.R_celln (⟨#[]⟩ : ByteArray) HQ18.out (t236 : Int) p16 q16
   replace p16 := eq_true p16
   replace q16 := eq_true q16
   have HP19 := Kd.R_putn HQ18.out (t236 : Int) (rdOf ByteArray.empty x5_1 x6_1)
   rw [← Ny240.out] at HP19
   have HQ19 := Aside0.mk HP19
   clear HP19
   refine start_ (n := 16) (S := fun w' => w'.cell? ⟨go15, (t236).toNat, none⟩ = some (.string (rdOf ByteArray.empty x5_1 t236)) ∧ w'.cell? ⟨go15, (x6_1).toNat, none⟩ = some (.string (rdOf ByteArray.empty x5_1 x6_1))) (ds := [13, 15]) #[false, false, false, false, false, false, false, false, false, false, false, false, false, false, false, false] (by kernel_rfl) rfl rfl ⟨hx237_0, hx238_0⟩ (fun hHeld => ?_); refine with_tabW laws_shuffle.tab8 laws_shuffle.bits8 (fun HT_ HW_ => ?_)
   generalize wr.drew = w17 at HO_5 HB GG15 HQ18 HQ19 hf15_0 hf16_0 hx15_0 hx16_0 hx237_0 hx238_0 hHeld ⊢
   refine pure_ (i := 0) (N := some 30) (v := ?_) (a' := ?_) #[true, false, false, false, false, false, false, false, false, false, false, false, false, false, false, false] rfl rfl (any_of HT_.out (by kernel_rfl)) (fun _ _ _ h => h) (Or.inl ⟨by rfl, ?_⟩) ?_ ?_
   rotate_left
   ·intro w'
    go_simp
    with_reducible rfl
   rotate_left
   ·simp only [Act.put, List.setIfInBounds_toArray, List.set_cons_zero, List.set_cons_succ, i64_w, i32_w]
    rfl
   refine pure_ (i := 1) (N := some 31) (v := ?_) (a' := ?_) #[true, true, false, false, false, false, false, false, false, false, false, false, false, false, false, false] rfl rfl (any_of HT_.out (by kernel_rfl)) (fun _ _ _ h => h) (Or.inl ⟨by rfl, ?_⟩) ?_ ?_
   rotate_left
   ·intro w'
    go_simp
    with_reducible rfl
   rotate_left
   ·simp only [Act.put, List.setIfInBounds_toArray, List.set_cons_zero, List.set_cons_succ, i64_w, i32_w]
    rfl
   refine pure_ (i := 2) (N := some 32) (v := ?_) (a' := ?_) #[true, true, true, false, false, false, false, false, false, false, false, false, false, false, false, false] rfl rfl (any_of HT_.out (by kernel_rfl)) (fun _ _ _ h => h) (Or.inl ⟨by rfl, ?_⟩) ?_ ?_
   rotate_left
   ·intro w'
    go_simp
    with_reducible rfl
   rotate_left
   ·simp only [Act.put, List.setIfInBounds_toArray, List.set_cons_zero, List.set_cons_succ, i64_w, i32_w]
    rfl
   refine pure_ (i := 3) (N := some 33) (v := ?_) (a' := ?_) #[true, true, true, true, false, false, false, false, false, false, false, false, false, false, false, false] rfl rfl (any_of HT_.out (by kernel_rfl)) (fun _ _ _ h => h) (Or.inl ⟨by rfl, ?_⟩) ?_ ?_
   rotate_left
   ·intro w'
    go_simp
    with_reducible rfl
   rotate_left
   ·simp only [Act.put, List.setIfInBounds_toArray, List.set_cons_zero, List.set_cons_succ, i64_w, i32_w]
    rfl
   refine pure_ (i := 4) (N := some 34) (v := ?_) (a' := ?_) #[true, true, true, true, true, false, false, false, false, false, false, false, false, false, false, false] rfl rfl (any_of HT_.out (by kernel_rfl)) (fun _ _ _ h => h) (Or.inl ⟨by rfl, ?_⟩) ?_ ?_
   rotate_left
   ·intro w'
    go_simp
    with_reducible rfl
   rotate_left
   ·simp only [Act.put, List.setIfInBounds_toArray, List.set_cons_zero, List.set_cons_succ, i64_w, i32_w]
    rfl
   refine pure_ (i := 5) (N := some 35) (v := ?_) (a' := ?_) #[true, true, true, true, true, true, false, false, false, false, false, false, false, false, false, false] rfl rfl (any_of HT_.out (by kernel_rfl)) (fun _ _ _ h => h) (Or.inl ⟨by rfl, ?_⟩) ?_ ?_
   rotate_left
   ·intro w'
    go_simp
    with_reducible rfl
   rotate_left
   ·simp only [Act.put, List.setIfInBounds_toArray, List.set_cons_zero, List.set_cons_succ, i64_w, i32_w]
    rfl
   refine pure_ (i := 6) (N := some 36) (v := ?_) (a' := ?_) #[true, true, true, true, true, true, true, false, false, false, false, false, false, false, false, false] rfl rfl (any_of HT_.out (by kernel_rfl)) (fun _ _ _ h => h) (Or.inl ⟨by rfl, ?_⟩) ?_ ?_
   rotate_left
   ·intro w'
    go_simp
    with_reducible rfl
   rotate_left
   ·simp only [Act.put, List.setIfInBounds_toArray, List.set_cons_zero, List.set_cons_succ, i64_w, i32_w]
    rfl
   refine pure_ (i := 8) (N := some 38) (v := ?_) (a' := ?_) #[true, true, true, true, true, true, true, false, true, false, false, false, false, false, false, false] rfl rfl (any_of HT_.out (by kernel_rfl)) (fun _ _ _ h => h) (Or.inl ⟨by rfl, ?_⟩) ?_ ?_
   rotate_left
   ·intro w'
    go_simp
    with_reducible rfl
   rotate_left
   ·simp only [Act.put, List.setIfInBounds_toArray, List.set_cons_zero, List.set_cons_succ, i64_w, i32_w]
    rfl
   refine pure_ (i := 9) (N := some 39) (v := ?_) (a' := ?_) #[true, true, true, true, true, true, true, false, true, true, false, false, false, false, false, false] rfl rfl (any_of HT_.out (by kernel_rfl)) (fun _ _ _ h => h) (Or.inl ⟨by rfl, ?_⟩) ?_ ?_
   rotate_left
   ·intro w'
    go_simp
    with_reducible rfl
   rotate_left
   ·simp only [Act.put, List.setIfInBounds_toArray, List.set_cons_zero, List.set_cons_succ, i64_w, i32_w]
    rfl
   refine pure_ (i := 10) (N := some 40) (v := ?_) (a' := ?_) #[true, true, true, true, true, true, true, false, true, true, true, false, false, false, false, false] rfl rfl (any_of HT_.out (by kernel_rfl)) (fun _ _ _ h => h) (Or.inl ⟨by rfl, ?_⟩) ?_ ?_
   rotate_left
   ·intro w'
    go_simp
    with_reducible rfl
   rotate_left
   ·simp only [Act.put, List.setIfInBounds_toArray, List.set_cons_zero, List.set_cons_succ, i64_w, i32_w]
    rfl
   refine take_ (i := 7) (N := some 37) (v := ?_) (a' := ?_) #[true, true, true, true, true, true, true, true, true, true, true, false, false, false, false, false] rfl rfl (take_ofW HT_.out HW_.out (by kernel_rfl)) (fun _ _ _ h => h) (Or.inl ⟨by rfl, ?_⟩) hHeld ?_ ?_
   rotate_left
   ·rintro w' ⟨s0, s1⟩
    go_simp
    with_reducible rfl
   rotate_left
   ·simp only [Act.put, List.setIfInBounds_toArray, List.set_cons_zero, List.set_cons_succ, i64_w, i32_w]
    rfl
   refine take_ (i := 11) (N := some 41) (v := ?_) (a' := ?_) #[true, true, true, true, true, true, true, true, true, true, true, true, false, false, false, false] rfl rfl (take_ofW HT_.out HW_.out (by kernel_rfl)) (fun _ _ _ h => h) (Or.inl ⟨by rfl, ?_⟩) hHeld ?_ ?_
   rotate_left
   ·rintro w' ⟨s0, s1⟩
    go_simp
    with_reducible rfl
   rotate_left
   ·simp only [Act.put, List.setIfInBounds_toArray, List.set_cons_zero, List.set_cons_succ, i64_w, i32_w]
    rfl
   refine pure_ (i := 12) (N := some 42) (v := ?_) (a' := ?_) #[true, true, true, true, true, true, true, true, true, true, true, true, true, false, false, false] rfl rfl (any_of HT_.out (by kernel_rfl)) (fun _ _ _ h => h) (Or.inl ⟨by rfl, ?_⟩) ?_ ?_
   rotate_left
   ·intro w'
    go_simp
    with_reducible rfl
   rotate_left
   ·simp only [Act.put, List.setIfInBounds_toArray, List.set_cons_zero, List.set_cons_succ, i64_w, i32_w]
    rfl
   refine last_ (i := 13) (N := none) #[true, true, true, true, true, true, true, true, true, true, true, true, true, true, false, false] rfl rfl (one_of HT_.out (by kernel_rfl)) (by decide) (fun K hK => ?_)
   refine skip_ (w1 := ?_) (by rfl) rfl ?_ ?_
   rotate_left
   ·go_simp
    rfl
   refine hK.out _ _ ?_
   clear hK K
   refine pure_ (i := 14) (N := some 43) (v := ?_) (a' := ?_) #[true, true, true, true, true, true, true, true, true, true, true, true, true, true, true, false] rfl rfl (any_of HT_.out (by kernel_rfl)) (fun _ _ _ h => h) (Or.inl ⟨by rfl, ?_⟩) ?_ ?_
   rotate_left
   ·intro w'
    go_simp
    with_reducible rfl
   rotate_left
   ·simp only [Act.put, List.setIfInBounds_toArray, List.set_cons_zero, List.set_cons_succ, i64_w, i32_w]
    rfl
   refine last_ (i := 15) (N := none) #[true, true, true, true, true, true, true, true, true, true, true, true, true, true, true, true] rfl rfl (one_of HT_.out (by kernel_rfl)) (by decide) (fun K hK => ?_)
   refine skip_ (w1 := ?_) (by rfl) rfl ?_ ?_
   rotate_left
   ·go_simp
    rfl
   refine hK.out _ _ ?_
   clear hK K
   refine done_ (done_of HT_.out (by kernel_rfl)) ?_
   try go_wp2
   (try simp only [← hl5_1])
   go_roundg k1
   case measure => have := HK1.out; omega
   case rel => exact ⟨(y240), (wrap64 (x6_1 - 1)), (by first | rfl | (simp; done) | (simp [*]; done)), H', ⟨by have := HK1.out; omega⟩, ⟨by (try simp only [hl5_1]); (with_reducible repeat (first | apply Kd.R_alloc | apply Kd.R_drewN | apply Kd.R_drew)); exact HQ19.out⟩, ⟨by repeat (first | (with_reducible first | exact HB.out | apply below_alloc | apply pw_below_drewN | apply below_drew1 | refine below_set ?_ GB15.out | refine below_set ?_ GB15.out) | exact HB.out)⟩⟩

-- GIVEN: function 12 (laws_come)

/-! ### laws_texts: function 14 -/
end Go.Proofs.YtblmbbllfiigmaaDoor.PAll
