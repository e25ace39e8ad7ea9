-- Printed by a program, out of the translation.
import Derived.Test.YtblmbbllfiigmaaDoorPAllb0
import Derived.Test.YtblmbbllfiigmaaDoorPAllb1
import Derived.Test.YtblmbbllfiigmaaDoorPAllb3
import Derived.Test.YtblmbbllfiigmaaDoorPAllx1
import Derived.Test.YtblmbbllfiigmaaDoorPAllx3
import Derived.Test.YtblmbbllfiigmaaDoorPAllx4
import Derived.Test.YtblmbbllfiigmaaDoorMone
import Derived.Test.YtblmbbllfiigmaaDoorFrs
namespace Go.Proofs.YtblmbbllfiigmaaDoor.PAll
open Go.RowKit Go.Proofs.YtblmbbllfiigmaaDoorW.PrintWords Go.Proofs.YtblmbbllfiigmaaDoorW.PrintLast Go.Proofs.YtblmbbllfiigmaaDoorW.PrintMore
attribute [local go_sem] max2_int min2_int max_two min_two max_three min_three max_four min_four   -- for this text's walks alone
set_option linter.unusedVariables false
set_option linter.unusedSimpArgs false

/-! ### laws_FnPiecesAgainst: function 6 -/
theorem cell_far {W : World} {p a : Addr} (h : a.block ≠ p.block) (u : Value) : (W.setCell p u).cell? a = W.cell? a := Go.Proofs.YtblmbbllfiigmaaDoorW.PrintWords.cell_far h u
noncomputable section
mutual
def laws_FnPiecesAgainst.j0 : Nat → List ByteArray → Int → List Int → Int → Bool → Option (Bool)
 | 0, _, _, _, _, _ => none
 | k + 1, x0, x1, x2, x3, x25 => if x25 = true then (some true) else ((laws_light.f k x0 x1).bind fun t315 => (if t315 = true then (laws_FnPiecesAgainst.l0 k x1 x2 x3 ([] : List ByteArray) x0 (x0.length : Int) 0) else (some true)))
def laws_FnPiecesAgainst.l0 : Nat → Int → List Int → Int → List ByteArray → List ByteArray → Int → Int → Option (Bool)
 | 0, _, _, _, _, _, _, _ => none
 | k + 1, x1, x2, x3, x9, x30, x31, x32 => if x32 < x31 then (if 0 ≤ x32 then (if x32 < (x30.length : Int) then ((laws_cutting.f k 11 x32 (rdOf ByteArray.empty x30 x32) x1).bind fun t317 => (if x9.length + t317.length < 8796093022208 then (laws_FnPiecesAgainst.l0 k x1 x2 x3 (x9 ++ t317) x30 x31 (wrap64 (x32 + 1))) else (none))) else (none)) else (none)) else ((laws_shuffle.f k x9 x2).bind fun t323 => (if x3 ≥ 0 then (laws_FnPiecesAgainst.j2 k x3 t323 (decide (x3 < (t323.length : Int)))) else (laws_FnPiecesAgainst.j2 k x3 t323 false)))
def laws_FnPiecesAgainst.j2 : Nat → Int → List ByteArray → Bool → Option (Bool)
 | 0, _, _, _ => none
 | k + 1, x3, x9, x54 => if x54 = true then (if 0 ≤ x3 then (if x3 ≤ (x9.length : Int) then (if 0 ≤ (wrap64 (x3 + 1)) then (if (wrap64 (x3 + 1)) ≤ (x9.length : Int) then (laws_FnPiecesAgainst.j3 k (x9.eraseIdx (x3 : Int).toNat)) else (none)) else (none)) else (none)) else (none)) else (laws_FnPiecesAgainst.j3 k x9)
def laws_FnPiecesAgainst.j3 : Nat → List ByteArray → Option (Bool)
 | 0, _ => none
 | k + 1, x9 => laws_FnPiecesAgainst.l1 k ([] : List (S40)) x9 (x9.length : Int) 0
def laws_FnPiecesAgainst.l1 : Nat → List (S40) → List ByteArray → Int → Int → Option (Bool)
 | 0, _, _, _, _ => none
 | k + 1, x12, x63, x64, x65 => if x65 < x64 then (if 0 ≤ x65 then (if x65 < (x63.length : Int) then ((laws_record.f k x65 (rdOf ByteArray.empty x63 x65)).bind fun t338 => ((some (([(⟨true, t338⟩ : S40), (⟨false, (⟨#[]⟩ : ByteArray)⟩ : S40)] : List (S40)) : List (S40))).bind fun y339 => (if x12.length + y339.length < 5864062014805 then (laws_FnPiecesAgainst.l1 k (x12 ++ y339) x63 x64 (wrap64 (x65 + 1))) else (none)))) else (none)) else (none)) else (if x12.length < 5864062014805 then ((some (x12 ++ [(⟨false, (⟨#[]⟩ : ByteArray)⟩ : S40)] : List (S40))).bind fun y345 => ((spec_FragmentsKnown.f k y345).bind fun t348 => (if t348 = true then ((impl_Fragments.f k y345).bind fun t349 => ((spec_Fragments.f k y345).bind fun t352 => (if (t349.length : Int) = (y345.length : Int) then (laws_FnPiecesAgainst.j5 k t349 t352 ((t352.length : Int) != (y345.length : Int))) else (laws_FnPiecesAgainst.j5 k t349 t352 true)))) else (some true)))) else (none))
def laws_FnPiecesAgainst.j5 : Nat → List (S43) → List (S43) → Bool → Option (Bool)
 | 0, _, _, _ => none
 | k + 1, x15, x16, x101 => if x101 = true then (none) else (laws_FnPiecesAgainst.l2 k x15 x16 (x15.length : Int) 0)
def laws_FnPiecesAgainst.l2 : Nat → List (S43) → List (S43) → Int → Int → Option (Bool)
 | 0, _, _, _, _ => none
 | k + 1, x15, x16, x103, x104 => if x104 < x103 then (if 0 ≤ x104 then (if x104 < (x15.length : Int) then (if x104 < (x16.length : Int) then (if (((rd_T43 x15 x104).f3) != ((rd_T43 x16 x104).f3)) = true then (none) else (if ((rd_T43 x15 x104).f4).toList = ((rd_T43 x16 x104).f4).toList then (if (((rd_T43 x15 x104).f2) != ((rd_T43 x16 x104).f2)) = true then (none) else (if (((rd_T43 x15 x104).f0) != ((rd_T43 x16 x104).f0)) = true then (none) else (if (((rd_T43 x15 x104).f1) != ((rd_T43 x16 x104).f1)) = true then (none) else (if ((rd_T43 x15 x104).f5) = ((rd_T43 x16 x104).f5) then (laws_FnPiecesAgainst.l2 k x15 x16 x103 (wrap64 (x104 + 1))) else (none))))) else (none))) else (none)) else (none)) else (none)) else (some true)
end
def laws_FnPiecesAgainst.f (k : Nat) (l0 : List ByteArray) (a1 : Int) (l2 : List Int) (a3 : Int) : Option (Bool) := (laws_zzFits2.f k l0).bind fun t314 => (if t314 = true then (laws_FnPiecesAgainst.j0 k l0 a1 l2 a3 (decide ((l2.length : Int) > 2147483647))) else (laws_FnPiecesAgainst.j0 k l0 a1 l2 a3 true))
def laws_FnPiecesAgainst.T13 : Bool × List (List Nat × List Nat) := (true, [([], []), ([], []), ([0, 1], [0, 1]), ([], []), ([], []), ([4], [4]), ([3, 5], [3, 5]), ([2, 6], [2, 6]), ([7, 7, 0, 1, 2, 3, 4, 5, 6, 7], [0, 3, 7])])
def laws_FnPiecesAgainst.B13 : List Nat := [0, 0, 3, 0, 0, 16, 56, 127, 255]
theorem laws_FnPiecesAgainst.tab13 : rtab .any (opsOf Tryd.f6 13) = laws_FnPiecesAgainst.T13 := by kernel_rfl
theorem laws_FnPiecesAgainst.bits13 : waitsOk laws_FnPiecesAgainst.T13.2 laws_FnPiecesAgainst.B13 = true := by kernel_rfl
def laws_FnPiecesAgainst.T29 : Bool × List (List Nat × List Nat) := (true, [([], []), ([], []), ([0, 1], [0, 1]), ([2], [2]), ([3], [3]), ([], []), ([], []), ([5, 6], [5, 6]), ([7], [7]), ([8], [8]), ([4, 9], [4, 9]), ([10], [10]), ([11], [11]), ([11], [11]), ([12, 13, 11], [11, 12, 13]), ([14, 11], [11, 14]), ([15, 11], [11, 15]), ([11], [11]), ([11], [11]), ([17, 18, 11], [11, 17, 18]), ([19, 11], [11, 19]), ([20, 11], [11, 20]), ([16, 21, 11], [11, 16, 21]), ([11, 22], [11, 22]), ([23, 11], [23]), ([24], [24]), ([24], [24]), ([25, 26, 24], [24, 25, 26]), ([27, 24], [24, 27]), ([28, 24], [24, 28]), ([24], [24]), ([24], [24]), ([30, 31, 24], [24, 30, 31]), ([32, 24], [24, 32]), ([33, 24], [24, 33]), ([29, 34, 24], [24, 29, 34]), ([24, 35], [24, 35]), ([36, 24], [36]), ([37], [37]), ([37], [37]), ([38, 39, 37], [37, 38, 39]), ([40, 37], [37, 40]), ([41, 37], [37, 41]), ([37], [37]), ([37], [37]), ([43, 44, 37], [37, 43, 44]), ([45, 37], [37, 45]), ([46, 37], [37, 46]), ([42, 47, 37], [37, 42, 47]), ([37, 48], [37, 48]), ([49, 37], [49]), ([50], [50]), ([50], [50]), ([51, 52, 50], [50, 51, 52]), ([53, 50], [50, 53]), ([54, 50], [50, 54]), ([50], [50]), ([50], [50]), ([56, 57, 50], [50, 56, 57]), ([58, 50], [50, 58]), ([59, 50], [50, 59]), ([55, 60, 50], [50, 55, 60]), ([50, 61], [50, 61]), ([62, 50], [62]), ([63], [63]), ([63], [63]), ([64, 65, 63], [63, 64, 65]), ([66, 63], [63, 66]), ([67, 63], [63, 67]), ([63], [63]), ([63], [63]), ([69, 70, 63], [63, 69, 70]), ([71, 63], [63, 71]), ([72, 63], [63, 72]), ([68, 73, 63], [63, 68, 73]), ([63, 74], [63, 74])])
def laws_FnPiecesAgainst.B29 : List Nat := [0, 0, 3, 7, 15, 0, 0, 96, 224, 480, 1023, 2047, 4095, 4095, 16383, 32767, 65535, 4095, 4095, 397311, 921599, 1970175, 4194303, 8388607, 16777215, 33554431, 33554431, 134217727, 268435455, 536870911, 33554431, 33554431, 3254779903, 7549747199, 16139681791, 34359738367, 68719476735, 137438953471, 274877906943, 274877906943, 1099511627775, 2199023255551, 4398046511103, 274877906943, 274877906943, 26663156973567, 61847529062399, 132216273240063, 281474976710655, 562949953421311, 1125899906842623, 2251799813685247, 2251799813685247, 9007199254740991, 18014398509481983, 36028797018963967, 2251799813685247, 2251799813685247, 218424581927469055, 506654958079180799, 1083115710382604287, 2305843009213693951, 4611686018427387903, 9223372036854775807, 18446744073709551615, 18446744073709551615, 73786976294838206463, 147573952589676412927, 295147905179352825855, 18446744073709551615, 18446744073709551615, 1789334175149826506751, 4150517416584649113599, 8872883899454294327295, 18889465931478580854783, 37778931862957161709567]
theorem laws_FnPiecesAgainst.tab29 : rtab .any (opsOf Tryd.f6 29) = laws_FnPiecesAgainst.T29 := by kernel_rfl
theorem laws_FnPiecesAgainst.bits29 : waitsOk laws_FnPiecesAgainst.T29.2 laws_FnPiecesAgainst.B29 = true := by kernel_rfl
end
set_option maxHeartbeats 200000000 in
set_option maxRecDepth 100000 in
theorem laws_FnPiecesAgainst.calls (k : Nat) (A0 : Option Addr) (c0 : Nat) (l0 : List ByteArray) (a1 : Int) (A2 : Option Addr) (c2 : Nat) (l2 : List Int) (a3 : Int) (r : Bool) (w : World) (hr0 : Kd.C Kd.string w A0 l0.length l0) (hc0 : l0.length ≤ c0) (hr2 : Kd.C (Kd.int .i64) w A2 l2.length l2) (hc2 : l2.length ≤ c2) (h : laws_FnPiecesAgainst.f k l0 a1 l2 a3 = some r) (hgl : GL w) :
  Calls Tryd.prog 6 #[.slice A0 l0.length c0, .int .i64 a1, .slice A2 l2.length c2, .int .i64 a3] w fun e w' => e = .returned (.bool r) ∧ Below w.heap.size w w' := by
 have HGL := Aside0.mk hgl
 clear hgl
 have hu40 := Tryd.underlying40
 have HR0 := Aside0.mk hr0
 have HC0 := Aside0.mk hc0
 clear hr0 hc0
 have HR2 := Aside0.mk hr2
 have HC2 := Aside0.mk hc2
 clear hr2 hc2
 have HB := Aside0.mk (Below.refl w.heap.size w)
 have H : ((laws_zzFits2.f k l0).bind fun t314 => (if t314 = true then (laws_FnPiecesAgainst.j0 k l0 a1 l2 a3 (decide ((l2.length : Int) > 2147483647))) else (laws_FnPiecesAgainst.j0 k l0 a1 l2 a3 true))) = some r := h
 clear h
 have HC5 := Aside0.mk H
 clear H
 go_enter Tryd.func6, Tryd.ntmps6
 go_upto_region 1 with (fail)
 go_cut [25] (fun v25 wc => ∃ (kq : Nat) (x25_4 : Bool), v25 = .bool x25_4 ∧ Aside0 (laws_FnPiecesAgainst.j0 kq l0 a1 l2 a3 x25_4 = some r) ∧ Aside0 (kq ≤ k) ∧ Aside0 (Below w.heap.size w wc))
 case first => as_aux_lemma =>
  have H := HC5.out
  clear HC5
  replace H := Option.bind_eq_some_iff.mp H
  obtain ⟨t314, A60, H⟩ := H
  replace H : (if t314 = true then (laws_FnPiecesAgainst.j0 k l0 a1 l2 a3 (decide ((l2.length : Int) > 2147483647))) else (laws_FnPiecesAgainst.j0 k l0 a1 l2 a3 true)) = some r := H
  have A6 := Aside0.mk A60
  clear A60
  by_cases c7 : t314 = true
  ·subst c7
   have H1 : (laws_FnPiecesAgainst.j0 k l0 a1 l2 a3 (decide ((l2.length : Int) > 2147483647))) = some r := by rw [if_pos rfl] at H; exact H
   clear H
   have H := H1
   clear H1
   have H' := Aside0.mk H
   clear H
   go_wp2_with (first | ((with_reducible refine gate_callee (f := 16) rfl ?_); refine goesL_ (some 19) rfl rfl Tryd.func16 (by kernel_rfl) rfl #[.slice A0 l0.length c0] rfl (by (try simp only [List.map_toArray, List.map_cons, List.map_nil]); first | done | rfl | (simp only [List.length_drop, List.length_take]; rfl)) ?_; (with_reducible refine (laws_zzFits2.calls k _ _ l0 true _ ?side1 ?side2 A6.out).mono ?_); (case side1 => repeat (first | exact (Kd.C_below HR0.out HB.out) | (with_reducible refine Kd.C_alloc ?_ _) | (with_reducible refine Kd.C_drewN ?_ _) | (with_reducible refine Kd.C_drew ?_))); (case side2 => exact HC0.out); rintro e w' ⟨rfl, ⟨nd, rfl⟩⟩; refine ⟨_, rfl, ?_⟩))
   go_meet
   case rel => exact ⟨_, (decide ((l2.length : Int) > 2147483647)), (by first | rfl | (simp; done) | (simp [*]; done)), H', ⟨by first | omega | exact Nat.le_refl _⟩, ⟨by repeat (first | (with_reducible first | exact HB.out | apply below_alloc | apply pw_below_drewN | apply below_drew1) | exact HB.out)⟩⟩
  replace c7 := Bool.eq_false_iff.mpr c7
  subst c7
  have H1 : (laws_FnPiecesAgainst.j0 k l0 a1 l2 a3 true) = some r := by rw [if_neg (show ¬ (false = true) by decide)] at H; exact H
  clear H
  have H := H1
  clear H1
  have H' := Aside0.mk H
  clear H
  go_wp2_with (first | ((with_reducible refine gate_callee (f := 16) rfl ?_); refine goesL_ (some 19) rfl rfl Tryd.func16 (by kernel_rfl) rfl #[.slice A0 l0.length c0] rfl (by (try simp only [List.map_toArray, List.map_cons, List.map_nil]); first | done | rfl | (simp only [List.length_drop, List.length_take]; rfl)) ?_; (with_reducible refine (laws_zzFits2.calls k _ _ l0 false _ ?side1 ?side2 A6.out).mono ?_); (case side1 => repeat (first | exact (Kd.C_below HR0.out HB.out) | (with_reducible refine Kd.C_alloc ?_ _) | (with_reducible refine Kd.C_drewN ?_ _) | (with_reducible refine Kd.C_drew ?_))); (case side2 => exact HC0.out); rintro e w' ⟨rfl, ⟨nd, rfl⟩⟩; refine ⟨_, rfl, ?_⟩))
  go_meet
  case rel => exact ⟨_, (true), (by first | rfl | (simp; done) | (simp [*]; done)), H', ⟨by first | omega | exact Nat.le_refl _⟩, ⟨by repeat (first | (with_reducible first | exact HB.out | apply below_alloc | apply pw_below_drewN | apply below_drew1) | exact HB.out)⟩⟩
 case rest =>
  clear HC5
  try clear c1
  try clear c2
  try clear p2
  try clear c6
  try clear c7
  obtain ⟨kq, x25_4, rfl, HA, HJ4, HB⟩ := hcut
  cases kq with
  | zero => exact absurd HA.out (by simp [laws_FnPiecesAgainst.j0])
  | succ kj4 =>
   have H := HA.out
   clear HA
   simp only [laws_FnPiecesAgainst.j0] at H
   by_cases c8 : x25_4 = true
   ·subst c8
    have H1 : (some true) = some r := by rw [if_pos rfl] at H; exact H
    clear H
    have H := H1
    clear H1
    obtain rfl := Option.some.inj H
    go_wp2
    go_ret
    exact ⟨by first | rfl | (simp [errW_none, errW_some] <;> rfl) | (simp [*, errW_none, errW_some] <;> rfl), by repeat (first | (with_reducible first | exact HB.out | apply below_alloc | apply pw_below_drewN | apply below_drew1) | exact HB.out)⟩
   replace c8 := Bool.eq_false_iff.mpr c8
   subst c8
   have H1 : ((laws_light.f kj4 l0 a1).bind fun t315 => (if t315 = true then (laws_FnPiecesAgainst.l0 kj4 a1 l2 a3 ([] : List ByteArray) l0 (l0.length : Int) 0) else (some true))) = some r := by rw [if_neg (show ¬ (false = true) by decide)] at H; exact H
   clear H
   have H := H1
   clear H1
   replace H := Option.bind_eq_some_iff.mp H
   obtain ⟨t315, A90, H⟩ := H
   replace H : (if t315 = true then (laws_FnPiecesAgainst.l0 kj4 a1 l2 a3 ([] : List ByteArray) l0 (l0.length : Int) 0) else (some true)) = some r := H
   have A9 := Aside0.mk A90
   clear A90
   by_cases c10 : t315 = true
   rotate_left
   ·replace c10 := Bool.eq_false_iff.mpr c10
    subst c10
    have H1 : (some true) = some r := by rw [if_neg (show ¬ (false = true) by decide)] at H; exact H
    clear H
    have H := H1
    clear H1
    obtain rfl := Option.some.inj H
    go_wp2_with (first | ((with_reducible refine gate_callee (f := 7) rfl ?_); refine goesL_ (some 28) rfl rfl Tryd.func7 (by kernel_rfl) rfl #[.slice A0 l0.length c0, .int .i64 a1] rfl (by (try simp only [List.map_toArray, List.map_cons, List.map_nil]); first | done | rfl | (simp only [List.length_drop, List.length_take]; rfl)) ?_; (with_reducible refine (laws_light.calls kj4 _ _ l0 a1 false _ ?side1 ?side2 A9.out).mono ?_); (case side1 => repeat (first | exact (Kd.C_below HR0.out HB.out) | (with_reducible refine Kd.C_alloc ?_ _) | (with_reducible refine Kd.C_drewN ?_ _) | (with_reducible refine Kd.C_drew ?_))); (case side2 => exact HC0.out); rintro e w' ⟨rfl, ⟨nd, rfl⟩⟩; refine ⟨_, rfl, ?_⟩))
    go_ret
    exact ⟨by first | rfl | (simp [errW_none, errW_some] <;> rfl) | (simp [*, errW_none, errW_some] <;> rfl), by repeat (first | (with_reducible first | exact HB.out | apply below_alloc | apply pw_below_drewN | apply below_drew1) | exact HB.out)⟩
   subst c10
   have H1 : (laws_FnPiecesAgainst.l0 kj4 a1 l2 a3 ([] : List ByteArray) l0 (l0.length : Int) 0) = some r := by rw [if_pos rfl] at H; exact H
   clear H
   have H := H1
   clear H1
   have H' := Aside0.mk H
   clear H
   go_wp2_with (first | ((with_reducible refine gate_callee (f := 7) rfl ?_); refine goesL_ (some 28) rfl rfl Tryd.func7 (by kernel_rfl) rfl #[.slice A0 l0.length c0, .int .i64 a1] rfl (by (try simp only [List.map_toArray, List.map_cons, List.map_nil]); first | done | rfl | (simp only [List.length_drop, List.length_take]; rfl)) ?_; (with_reducible refine (laws_light.calls kj4 _ _ l0 a1 true _ ?side1 ?side2 A9.out).mono ?_); (case side1 => repeat (first | exact (Kd.C_below HR0.out HB.out) | (with_reducible refine Kd.C_alloc ?_ _) | (with_reducible refine Kd.C_drewN ?_ _) | (with_reducible refine Kd.C_drew ?_))); (case side2 => exact HC0.out); rintro e w' ⟨rfl, ⟨nd, rfl⟩⟩; refine ⟨_, rfl, ?_⟩))
   go_loopg [9, 32] kj4 (fun kq v9 v32 w' => ∃ (x9_2 : List ByteArray) (x32_2 : Int), v32 = .int .i64 x32_2 ∧ Aside0 (laws_FnPiecesAgainst.l0 kq a1 l2 a3 x9_2 l0 (l0.length : Int) x32_2 = some r) ∧ Aside0 (kq ≤ kj4) ∧ Aside0 (Kd.R Kd.string 9 w' w.heap.size (fun _ => True) v9 x9_2) ∧ Aside0 (Below w.heap.size w w'))
   case atStart => exact ⟨(([] : List ByteArray)), (0), (by first | rfl | (simp; done) | (simp [*]; done)), H', ⟨Nat.le_refl _⟩, ⟨by first | exact Kd.R_nil _ _ _ _ _ | exact Kd.N_nil _ _ _ _ _ | exact Kd.V_nil _ _ _ _ _ | exact Kd.Q_nil _ _ _ _ _ | exact Kd.S_nil _ _ _ _ _⟩, ⟨by repeat (first | (with_reducible first | exact HB.out | apply below_alloc | apply pw_below_drewN | apply below_drew1) | exact HB.out)⟩⟩
   case round =>
    clear H'
    try clear c1
    try clear c2
    try clear p2
    try clear c6
    try clear c7
    try clear c8
    try clear c10
    try clear p2
    obtain ⟨x9_2, x32_2, rfl, HA, HK2, HO_9, HB⟩ := hrel
    cases gk with
    | zero => exact absurd HA.out (by simp [laws_FnPiecesAgainst.l0])
    | succ k2 =>
     have H := HA.out
     clear HA
     simp only [laws_FnPiecesAgainst.l0] at H
     by_cases c11 : x32_2 < (l0.length : Int)
     ·rw [if_pos c11] at H
      have c11b0 : decide (x32_2 < (l0.length : Int)) = true := decide_eq_true c11
      clear c11
      by_cases c12 : 0 ≤ x32_2
      rotate_left
      ·rw [if_neg c12] at H
       exact absurd H (by simp)
      rw [if_pos c12] at H
      have c12b0 : decide (0 ≤ x32_2) = true := decide_eq_true c12
      clear c12
      by_cases c13 : x32_2 < (l0.length : Int)
      rotate_left
      ·rw [if_neg c13] at H
       exact absurd H (by simp)
      rw [if_pos c13] at H
      have c13b0 : decide (x32_2 < (l0.length : Int)) = true := decide_eq_true c13
      clear c13
      replace H := Option.bind_eq_some_iff.mp H
      obtain ⟨t317, A140, H⟩ := H
      replace H : (if x9_2.length + t317.length < 8796093022208 then (laws_FnPiecesAgainst.l0 k2 a1 l2 a3 (x9_2 ++ t317) l0 (l0.length : Int) (wrap64 (x32_2 + 1))) else (none)) = some r := H
      have A14 := Aside0.mk A140
      clear A140
      by_cases c15 : x9_2.length + t317.length < 8796093022208
      rotate_left
      ·rw [if_neg c15] at H
       exact absurd H (by simp)
      rw [if_pos c15] at H
      have LMc15 := Aside0.mk c15
      clear c15
      obtain ⟨y320, hy320⟩ : ∃ y_ : List ByteArray, y_ = (x9_2 ++ t317) := ⟨_, rfl⟩
      replace H : (laws_FnPiecesAgainst.l0 k2 a1 l2 a3 y320 l0 (l0.length : Int) (wrap64 (x32_2 + 1))) = some r := by first | (rw [hy320]; with_reducible exact H) | (have H2_ := (Option.bind_some _ _).symm.trans H; rw [hy320]; with_reducible exact H2_) | (have H2_ := (Option.bind_some _ _).symm.trans H; with_reducible exact H2_) | with_reducible exact H | (rw [hy320]; exact H) | exact H
      have Ny320 := Aside0.mk hy320
      clear hy320
      have H' := Aside0.mk H
      clear H
      have p316 : 0 ≤ (x32_2 : Int) := of_decide_eq_true (by first | (with_reducible assumption) | assumption)
      have q316 : x32_2 < (l0.length : Int) := of_decide_eq_true (by first | (with_reducible assumption) | assumption)
      obtain ⟨ad316, e316, hx316_0⟩ := Kd.at_string HR0.out x32_2 p316 q316
      cases e316
      replace hx316_0 := (HB.out.cell (World.block_lt_of_cell? w _ hx316_0)).trans hx316_0
      replace p316 := eq_true p316
      replace q316 := eq_true q316
      go_wp2_with (first | ((with_reducible refine gate_callee (f := 8) rfl ?_); refine goesL_ (some 41) rfl rfl Tryd.func8 (by kernel_rfl) rfl #[.int .u8 11, .int .i64 x32_2, .string (rdOf ByteArray.empty l0 x32_2), .int .i64 a1] rfl (by (try simp only [List.map_toArray, List.map_cons, List.map_nil]); first | done | rfl | (simp only [List.length_drop, List.length_take]; rfl)) ?_; (with_reducible refine (laws_cutting.calls k2 11 x32_2 (rdOf ByteArray.empty l0 x32_2) a1 t317 _ A14.out).mono ?_); rintro e w16 ⟨v318, rfl, ho0, hb⟩; refine ⟨_, rfl, ?_⟩; have n0_ := Aside0.mk (Kd.R_elder' (by (with_reducible repeat (first | apply Kd.R_alloc | apply Kd.R_drewN | apply Kd.R_drew)); exact HO_9.out) (Kd.R_base ho0) hb); have n1_ := Aside0.mk (Kd.R_lower (Kd.R_new' ho0 (Kd.R_lt (by (with_reducible repeat (first | apply Kd.R_alloc | apply Kd.R_drewN | apply Kd.R_drew)); exact HO_9.out))) (below_size (by repeat (first | (with_reducible first | exact HB.out | apply below_alloc | apply pw_below_drewN | apply below_drew1) | exact HB.out)))); have n2_ := Aside0.mk (below_step (by repeat (first | (with_reducible first | exact HB.out | apply below_alloc | apply pw_below_drewN | apply below_drew1) | exact HB.out)) hb); clear HO_9; clear HB; have HO_9 := n0_; have HO319 := n1_; have HB := n2_; clear n0_ n1_ n2_; (try clear hb); (try clear hb2); (try clear hk); (try clear hi); (try clear ho0); obtain ⟨Ao18, co18, eo18⟩ := Kd.R_slice HO319.out; subst eo18) | ((with_reducible refine gate_builtin (b := .append) (xs := #[.tmp 37, .tmp 41]) rfl ?_); (try (refine gate_guard (by rfl) ?_; dsimp only)); at_builtin; refine Kd.R_append_rows Kd.string (w0 := w) w.heap.size rfl (.tmp 37) (.tmp 41) 24 9 (.string ⟨#[]⟩) 16 rfl Tryd.underlying24 info9 rfl (by decide) (by omega) u9 x9_2 t317 _ _ _ (fun k_ => some k_ ≠ (.slice Ao18 t317.length co18 : Value).ownBlock) (fun _ => False) rfl rfl ?aO ?aR (fun _ _ h => h) (fun _ h => h.elim) ?aF ?aB ?aS ?aL ?_; (case aR => repeat (first | exact (Kd.R_reads' HO319.out).2.2 | (with_reducible refine Kd.C_alloc ?_ _) | (with_reducible refine Kd.C_drewN ?_ _) | (with_reducible refine Kd.C_drew ?_))); (case aB => exact (by repeat (first | (with_reducible first | exact HB.out | apply below_alloc | apply pw_below_drewN | apply below_drew1) | exact HB.out))); (case aF => exact (fun k_ hk => Kd.fresh' (Kd.R_lt (by (with_reducible repeat (first | apply Kd.R_alloc | apply Kd.R_drewN | apply Kd.R_drew)); exact HO319.out)) k_ hk)); (case aO => exact (by (with_reducible repeat (first | apply Kd.R_alloc | apply Kd.R_drewN | apply Kd.R_drew)); exact Kd.R_mono HO_9.out (fun _ hk => hk.2))); (case aS => exact (below_size (by repeat (first | (with_reducible first | exact HB.out | apply below_alloc | apply pw_below_drewN | apply below_drew1) | exact HB.out)))); (case aL => have := LMc15.out; omega); intro v321 w17 ho hb hg hat; rw [← Ny320.out] at ho; have n0_ := Aside0.mk (Kd.R_after (ok := (fun _ => True)) (by (with_reducible repeat (first | apply Kd.R_alloc | apply Kd.R_drewN | apply Kd.R_drew)); exact HO319.out) hg hat); have n1_ := Aside0.mk (hb); have n2_ := Aside0.mk (ho); clear HO319; clear HB; clear HO_9; have HO319 := n0_; have HB := n1_; have HO322 := n2_; clear n0_ n1_ n2_; clear ho hb hg hat))
      go_roundg k2
      case measure => have := HJ4.out; have := HK2.out; omega
      case rel => exact ⟨(y320), (wrap64 (x32_2 + 1)), (by first | rfl | (simp; done) | (simp [*]; done)), H', ⟨by have := HJ4.out; have := HK2.out; omega⟩, ⟨by (with_reducible repeat (first | apply Kd.R_alloc | apply Kd.R_drewN | apply Kd.R_drew)); exact Kd.R_mono HO322.out (fun _ hk => trivial)⟩, ⟨by repeat (first | (with_reducible first | exact HB.out | apply below_alloc | apply pw_below_drewN | apply below_drew1) | exact HB.out)⟩⟩
     rw [if_neg c11] at H
     have c11b0 : decide (x32_2 < (l0.length : Int)) = false := decide_eq_false c11
     clear c11
     replace H := Option.bind_eq_some_iff.mp H
     obtain ⟨t323, A190, H⟩ := H
     replace H : (if a3 ≥ 0 then (laws_FnPiecesAgainst.j2 k2 a3 t323 (decide (a3 < (t323.length : Int)))) else (laws_FnPiecesAgainst.j2 k2 a3 t323 false)) = some r := H
     have A19 := Aside0.mk A190
     clear A190
     have HC20 := Aside0.mk H
     clear H
     obtain ⟨Ao21, co21, eo21⟩ := Kd.R_slice HO_9.out
     subst eo21
     go_upto_region 12 with (first | ((with_reducible refine gate_callee (f := 9) rfl ?_); refine goesL_ (some 46) rfl rfl Tryd.func9 (by kernel_rfl) rfl #[.slice Ao21 x9_2.length co21, .slice A2 l2.length c2] rfl (by (try simp only [List.map_toArray, List.map_cons, List.map_nil]); first | done | rfl | (simp only [List.length_drop, List.length_take]; rfl)) ?_; (with_reducible refine (laws_shuffle.calls k2 _ _ x9_2 _ _ l2 t323 _ ?side1 ?side2 ?side3 ?side4 A19.out).mono ?_); (case side1 => repeat (first | exact (Kd.R_reads' HO_9.out).2.2 | (with_reducible refine Kd.C_alloc ?_ _) | (with_reducible refine Kd.C_drewN ?_ _) | (with_reducible refine Kd.C_drew ?_))); (case side2 => exact (Kd.R_reads' HO_9.out).2.1); (case side3 => repeat (first | exact (Kd.C_below HR2.out HB.out) | (with_reducible refine Kd.C_alloc ?_ _) | (with_reducible refine Kd.C_drewN ?_ _) | (with_reducible refine Kd.C_drew ?_))); (case side4 => exact HC2.out); rintro e w22 ⟨v324, rfl, ho0, hb⟩; refine ⟨_, rfl, ?_⟩; have n0_ := Aside0.mk (Kd.R_elder' (by (with_reducible repeat (first | apply Kd.R_alloc | apply Kd.R_drewN | apply Kd.R_drew)); exact HO_9.out) (Kd.R_base ho0) hb); have n1_ := Aside0.mk (Kd.R_lower (Kd.R_new' ho0 (Kd.R_lt (by (with_reducible repeat (first | apply Kd.R_alloc | apply Kd.R_drewN | apply Kd.R_drew)); exact HO_9.out))) (below_size (by repeat (first | (with_reducible first | exact HB.out | apply below_alloc | apply pw_below_drewN | apply below_drew1) | exact HB.out)))); have n2_ := Aside0.mk (below_step (by repeat (first | (with_reducible first | exact HB.out | apply below_alloc | apply pw_below_drewN | apply below_drew1) | exact HB.out)) hb); clear HO_9; clear HB; have HO_9 := n0_; have HO325 := n1_; have HB := n2_; clear n0_ n1_ n2_; (try clear hb); (try clear hb2); (try clear hk); (try clear hi); (try clear ho0)))
     (try simp only [Act.put, List.setIfInBounds_toArray, List.set_cons_zero, List.set_cons_succ])
     go_cut [54] (fun v54 wc => ∃ (kq : Nat) (x54_19 : Bool), v54 = .bool x54_19 ∧ Aside0 (laws_FnPiecesAgainst.j2 kq a3 t323 x54_19 = some r) ∧ Aside0 (kq ≤ k2) ∧ Aside0 (Kd.R Kd.string 9 wc w.heap.size (fun _ => True) v324 t323) ∧ Aside0 (Below w.heap.size w wc))
     case first => as_aux_lemma =>
      have H := HC20.out
      clear HC20
      by_cases c23 : a3 ≥ 0
      rotate_left
      ·rw [if_neg c23] at H
       have c23b0 : decide (0 ≤ a3) = false := decide_eq_false c23
       clear c23
       (first | rw [c23b0] | (simp only [i64_w, i32_w]; rw [c23b0]) | skip)
       have H' := Aside0.mk H
       clear H
       go_wp2
       go_meet
       case rel => exact ⟨_, (false), (by first | rfl | (simp; done) | (simp [*]; done)), H', ⟨by have := HJ4.out; have := HK2.out; first | omega | exact Nat.le_refl _⟩, ⟨by (with_reducible repeat (first | apply Kd.R_alloc | apply Kd.R_drewN | apply Kd.R_drew)); exact Kd.R_mono HO325.out (fun _ hk => trivial)⟩, ⟨by repeat (first | (with_reducible first | exact HB.out | apply below_alloc | apply pw_below_drewN | apply below_drew1) | exact HB.out)⟩⟩
      rw [if_pos c23] at H
      have c23b0 : decide (0 ≤ a3) = true := decide_eq_true c23
      clear c23
      (first | rw [c23b0] | (simp only [i64_w, i32_w]; rw [c23b0]) | skip)
      have H' := Aside0.mk H
      clear H
      obtain ⟨Ao24, co24, eo24⟩ := Kd.R_slice HO325.out
      subst eo24
      go_wp2
      go_meet
      case rel => exact ⟨_, (decide (a3 < (t323.length : Int))), (by first | rfl | (simp; done) | (simp [*]; done)), H', ⟨by have := HJ4.out; have := HK2.out; first | omega | exact Nat.le_refl _⟩, ⟨by (with_reducible repeat (first | apply Kd.R_alloc | apply Kd.R_drewN | apply Kd.R_drew)); exact Kd.R_mono HO325.out (fun _ hk => trivial)⟩, ⟨by repeat (first | (with_reducible first | exact HB.out | apply below_alloc | apply pw_below_drewN | apply below_drew1) | exact HB.out)⟩⟩
     case rest =>
      clear HC20
      try clear c1
      try clear c2
      try clear p2
      try clear p3
      try clear q3
      try clear hx3
      try clear c6
      try clear p6
      try clear c7
      try clear c8
      try clear c9
      try clear c10
      try clear c11
      try clear c11b0
      try clear c12
      try clear c12b0
      try clear c13
      try clear c13b0
      try clear c15
      try clear c16
      try clear c23
      try clear c23b0
      try clear hx316_0
      try clear p2
      try clear p316
      try clear q316
      obtain ⟨kq, x54_19, rfl, HA, HJ19, HO_9, HB⟩ := hcut
      cases kq with
      | zero => exact absurd HA.out (by simp [laws_FnPiecesAgainst.j2])
      | succ kj19 =>
       have H := HA.out
       clear HA
       simp only [laws_FnPiecesAgainst.j2] at H
       have HC25 := Aside0.mk H
       clear H
       go_upto_if 54 with (fail)
       go_cut [9] (fun v9 wc => ∃ (kq : Nat) (x9_24 : List ByteArray), Aside0 (laws_FnPiecesAgainst.j3 kq x9_24 = some r) ∧ Aside0 (kq ≤ kj19) ∧ Aside0 (Kd.R Kd.string 9 wc w.heap.size (fun _ => True) v9 x9_24) ∧ Aside0 (Below w.heap.size w wc))
       case first => as_aux_lemma =>
        have H := HC25.out
        clear HC25
        by_cases c26 : x54_19 = true
        rotate_left
        ·replace c26 := Bool.eq_false_iff.mpr c26
         subst c26
         have H1 : (laws_FnPiecesAgainst.j3 kj19 t323) = some r := by rw [if_neg (show ¬ (false = true) by decide)] at H; exact H
         clear H
         have H := H1
         clear H1
         have H' := Aside0.mk H
         clear H
         go_wp2
         go_meet
         case rel => exact ⟨_, (t323), H', ⟨by have := HJ4.out; have := HK2.out; have := HJ19.out; first | omega | exact Nat.le_refl _⟩, ⟨by (with_reducible repeat (first | apply Kd.R_alloc | apply Kd.R_drewN | apply Kd.R_drew)); exact HO_9.out⟩, ⟨by repeat (first | (with_reducible first | exact HB.out | apply below_alloc | apply pw_below_drewN | apply below_drew1) | exact HB.out)⟩⟩
        subst c26
        have H1 : (if 0 ≤ a3 then (if a3 ≤ (t323.length : Int) then (if 0 ≤ (wrap64 (a3 + 1)) then (if (wrap64 (a3 + 1)) ≤ (t323.length : Int) then (laws_FnPiecesAgainst.j3 kj19 (t323.eraseIdx (a3 : Int).toNat)) else (none)) else (none)) else (none)) else (none)) = some r := by rw [if_pos rfl] at H; exact H
        clear H
        have H := H1
        clear H1
        by_cases c27 : 0 ≤ a3
        rotate_left
        ·rw [if_neg c27] at H
         exact absurd H (by simp)
        rw [if_pos c27] at H
        have c27b0 := eq_true c27
        have c27b1 : decide (0 ≤ a3) = true := decide_eq_true c27
        clear c27
        by_cases c28 : a3 ≤ (t323.length : Int)
        rotate_left
        ·rw [if_neg c28] at H
         exact absurd H (by simp)
        rw [if_pos c28] at H
        have c28b0 := eq_true c28
        have c28b1 : decide (a3 ≤ (t323.length : Int)) = true := decide_eq_true c28
        clear c28
        obtain ⟨y326, hy326⟩ : ∃ y_ : List ByteArray, y_ = (t323.take (a3 : Int).toNat) := ⟨_, rfl⟩
        replace H : (if 0 ≤ (wrap64 (a3 + 1)) then (if (wrap64 (a3 + 1)) ≤ (t323.length : Int) then (laws_FnPiecesAgainst.j3 kj19 (t323.eraseIdx (a3 : Int).toNat)) else (none)) else (none)) = some r := by first | (rw [hy326]; with_reducible exact H) | (have H2_ := (Option.bind_some _ _).symm.trans H; rw [hy326]; with_reducible exact H2_) | (have H2_ := (Option.bind_some _ _).symm.trans H; with_reducible exact H2_) | with_reducible exact H | (rw [hy326]; exact H) | exact H
        have Ny326 := Aside0.mk hy326
        clear hy326
        obtain ⟨ji29, hji29⟩ : ∃ j_ : Int, (wrap64 (a3 + 1)) = j_ := ⟨_, rfl⟩
        replace H : (if 0 ≤ (ji29) then (if (ji29) ≤ (t323.length : Int) then (laws_FnPiecesAgainst.j3 kj19 (t323.eraseIdx (a3 : Int).toNat)) else (none)) else (none)) = some r := by first | (rw [hji29] at H; exact H) | (simp only [hji29] at H ⊢; exact H)
        have hji29w : (IntKind.i64.wrap (a3 + 1)) = ji29 := (i64_w _).trans hji29
        by_cases c30 : 0 ≤ (ji29)
        rotate_left
        ·rw [if_neg c30] at H
         exact absurd H (by simp)
        rw [if_pos c30] at H
        have c30b0 := eq_true c30
        have c30b1 : decide (0 ≤ (ji29)) = true := decide_eq_true c30
        clear c30
        by_cases c31 : (ji29) ≤ (t323.length : Int)
        rotate_left
        ·rw [if_neg c31] at H
         exact absurd H (by simp)
        rw [if_pos c31] at H
        have c31b0 := eq_true c31
        have c31b1 : decide ((ji29) ≤ (t323.length : Int)) = true := decide_eq_true c31
        clear c31
        obtain ⟨y330, hy330⟩ : ∃ y_ : List ByteArray, y_ = (t323.drop ((ji29) : Int).toNat) := ⟨_, rfl⟩
        replace H : (laws_FnPiecesAgainst.j3 kj19 (t323.eraseIdx (a3 : Int).toNat)) = some r := by first | (rw [hy330]; with_reducible exact H) | (have H2_ := (Option.bind_some _ _).symm.trans H; rw [hy330]; with_reducible exact H2_) | (have H2_ := (Option.bind_some _ _).symm.trans H; with_reducible exact H2_) | with_reducible exact H | (rw [hy330]; exact H) | exact H
        have Ny330 := Aside0.mk hy330
        clear hy330
        obtain ⟨y334, hy334⟩ : ∃ y_ : List ByteArray, y_ = (t323.eraseIdx (a3 : Int).toNat) := ⟨_, rfl⟩
        replace H : (laws_FnPiecesAgainst.j3 kj19 y334) = some r := by first | (rw [hy334]; with_reducible exact H) | (have H2_ := (Option.bind_some _ _).symm.trans H; rw [hy334]; with_reducible exact H2_) | (have H2_ := (Option.bind_some _ _).symm.trans H; with_reducible exact H2_) | with_reducible exact H | (rw [hy334]; exact H) | exact H
        have Ny334 := Aside0.mk hy334
        clear hy334
        have H' := Aside0.mk H
        clear H
        try go_wp2
        have n0_ := Aside0.mk (Kd.R_drew HO_9.out)
        have n1_ := Aside0.mk (below_drew1 HB.out)
        clear HO_9
        clear HB
        have HO_9 := n0_
        have HB := n1_
        clear n0_ n1_
        obtain ⟨Ao34, co34, eo34⟩ := Kd.R_slice HO_9.out
        (first | subst eo34 | (injection eo34 with f1_ f2_ f3_; have f4_ := f1_.symm; have f5_ := f3_.symm; clear f1_ f2_ f3_; subst f4_; subst f5_))
        have q33 : (a3 : Int) ≤ ((t323.length : Int) : Int) := of_decide_eq_true (by first | (with_reducible assumption) | assumption)
        obtain ⟨i033, hi033, _, hsz33, _⟩ := info_parts info9
        have hroom33 : t323.length ≤ co34 := (Kd.R_reads' HO_9.out).2.1
        have hC33 : Kd.C Kd.string _ Ao34 t323.length t323 := (Kd.R_reads' HO_9.out).2.2
        have hcut33 := cut_to (P := Tryd.prog) 24 9 .i64 Tryd.underlying24 hi033 Ao34 t323.length co34 a3 (of_decide_eq_true (by first | (with_reducible assumption) | assumption)) q33 hroom33
        have hr33 := Kd.C_take (m := (a3 : Int).toNat) hC33 (by omega)
        have hy33 : y326.length = (a3 : Int).toNat := (by rw [Ny326.out, List.length_take]; omega)
        rw [← Ny326.out] at hr33
        rw [← hy33] at hcut33
        have HR329 := Aside0.mk hr33
        have HC329 := Aside0.mk (show y326.length ≤ co34 from by omega)
        clear hr33 hC33 hroom33 hi033 hsz33
        have KY33 := Aside0.mk hy33
        clear hy33
        have KL33 := Aside0.mk (show (a3 : Int).toNat ≤ t323.length from by omega)
        replace q33 := eq_true q33
        have q35 : ((ji29) : Int) ≤ ((t323.length : Int) : Int) := of_decide_eq_true (by first | (with_reducible assumption) | assumption)
        obtain ⟨i035, hi035, _, hsz35, _⟩ := info_parts info9
        have hroom35 : t323.length ≤ co34 := (Kd.R_reads' HO_9.out).2.1
        have hC35 : Kd.C Kd.string _ Ao34 t323.length t323 := (Kd.R_reads' HO_9.out).2.2
        have q035 : (0 : Int) ≤ ((ji29) : Int) := of_decide_eq_true (by first | (with_reducible assumption) | assumption)
        have hcut35 := cut_from (P := Tryd.prog) 24 9 .i64 Tryd.underlying24 hi035 1 hsz35 Ao34 t323.length co34 (ji29) q035 q35
        have hr35 := Kd.C_drop (m := ((ji29) : Int).toNat) (c := co34) hC35 (by omega) hroom35
        obtain ⟨A35, hA35⟩ : ∃ A1, A1 = (if co34 = ((ji29) : Int).toNat then Ao34 else (Ao34 : Option Addr).map (·.add (((ji29) : Int).toNat * 1))) := ⟨_, rfl⟩
        obtain ⟨c35, hc35⟩ : ∃ c1, c1 = co34 - ((ji29) : Int).toNat := ⟨_, rfl⟩
        have hy35 : y330.length = t323.length - ((ji29) : Int).toNat := (by rw [Ny330.out, List.length_drop] <;> omega)
        rw [show (t323).drop ((ji29) : Int).toNat = y330 from Ny330.out.symm] at hr35
        replace hr35 : Kd.C Kd.string _ A35 y330.length y330 := (by rw [hA35]; exact hr35)
        rw [← hy35, ← hA35, ← hc35] at hcut35
        have HR333 := Aside0.mk hr35
        have HC333 := Aside0.mk (show y330.length ≤ c35 from by rw [hy35, hc35]; exact Nat.sub_le_sub_right hroom35 _)
        clear hr35 hC35 hroom35 hi035 hsz35 hc35
        have KY35 := Aside0.mk hy35
        have KA35 := Aside0.mk hA35
        clear hy35 hA35
        have KL35 := Aside0.mk (show ((ji29) : Int).toNat ≤ t323.length from by omega)
        replace q35 := eq_true q35
        obtain ⟨go37, co37, eo37, gb37, gl37, cl37, HG37⟩ := Kd.R_form HO_9.out (by have hj_ : 0 ≤ (a3 : Int) := of_decide_eq_true (by first | (with_reducible assumption) | assumption); have hl_ : (ji29 : Int) ≤ (t323.length : Int) := of_decide_eq_true (by first | (with_reducible assumption) | assumption); have hh_ : (a3 : Int) ≤ (t323.length : Int) := of_decide_eq_true (by first | (with_reducible assumption) | assumption); rw [← hji29] at hl_; unfold wrap64 at hl_; omega)
        (first | cases eo37 | (injection eo37 with ea_ en_ ec_; (first | subst ea_ | (injection ea_ with ea_; subst ea_)); subst ec_; clear en_))
        have GB37 := Aside0.mk gb37
        have GG37 := Aside0.mk HG37
        clear gb37 gl37 HG37
        refine start_ (n := 9) (S := fun w' => True) (ds := []) #[false, false, false, false, false, false, false, false, false] (by kernel_rfl) rfl rfl trivial (fun hHeld => ?_); refine with_tabW laws_FnPiecesAgainst.tab13 laws_FnPiecesAgainst.bits13 (fun HT_ HW_ => ?_)
        generalize wc.drew = w32 at HO_9 HB GG37 HR329 HR333 hHeld ⊢
        refine pure_ (i := 0) (N := some 55) (v := ?_) (a' := ?_) #[true, false, false, false, false, false, false, false, false] rfl rfl (any_of HT_.out (by kernel_rfl)) (fun _ _ _ h => h) (Or.inl ⟨by rfl, ?_⟩) ?_ ?_
        rotate_left
        ·intro w'
         go_simp
         with_reducible rfl
        rotate_left
        ·simp only [Act.put, List.setIfInBounds_toArray, List.set_cons_zero, List.set_cons_succ, i64_w, i32_w]
         rfl
        refine pure_ (i := 1) (N := some 56) (v := ?_) (a' := ?_) #[true, true, false, false, false, false, false, false, false] rfl rfl (any_of HT_.out (by kernel_rfl)) (fun _ _ _ h => h) (Or.inl ⟨by rfl, ?_⟩) ?_ ?_
        rotate_left
        ·intro w'
         go_simp
         with_reducible rfl
        rotate_left
        ·simp only [Act.put, List.setIfInBounds_toArray, List.set_cons_zero, List.set_cons_succ, i64_w, i32_w]
         rfl
        refine pure_ (i := 2) (N := some 57) (v := ?_) (a' := ?_) #[true, true, true, false, false, false, false, false, false] rfl rfl (any_of HT_.out (by kernel_rfl)) (fun _ _ _ h => h) (Or.inl ⟨by rfl, ?_⟩) ?_ ?_
        rotate_left
        ·intro w'
         go_simp
         with_reducible rfl
        rotate_left
        ·simp only [Act.put, List.setIfInBounds_toArray, List.set_cons_zero, List.set_cons_succ, i64_w, i32_w]
         rfl
        refine pure_ (i := 3) (N := some 58) (v := ?_) (a' := ?_) #[true, true, true, true, false, false, false, false, false] rfl rfl (any_of HT_.out (by kernel_rfl)) (fun _ _ _ h => h) (Or.inl ⟨by rfl, ?_⟩) ?_ ?_
        rotate_left
        ·intro w'
         go_simp
         with_reducible rfl
        rotate_left
        ·simp only [Act.put, List.setIfInBounds_toArray, List.set_cons_zero, List.set_cons_succ, i64_w, i32_w]
         rfl
        refine pure_ (i := 4) (N := some 59) (v := ?_) (a' := ?_) #[true, true, true, true, true, false, false, false, false] rfl rfl (any_of HT_.out (by kernel_rfl)) (fun _ _ _ h => h) (Or.inl ⟨by rfl, ?_⟩) ?_ ?_
        rotate_left
        ·intro w'
         go_simp
         with_reducible rfl
        rotate_left
        ·simp only [Act.put, List.setIfInBounds_toArray, List.set_cons_zero, List.set_cons_succ, i64_w, i32_w]
         rfl
        refine pure_ (i := 5) (N := some 60) (v := ?_) (a' := ?_) #[true, true, true, true, true, true, false, false, false] rfl rfl (any_of HT_.out (by kernel_rfl)) (fun _ _ _ h => h) (Or.inl ⟨by rfl, ?_⟩) ?_ ?_
        rotate_left
        ·intro w'
         go_simp
         with_reducible rfl
        rotate_left
        ·simp only [Act.put, List.setIfInBounds_toArray, List.set_cons_zero, List.set_cons_succ, i64_w, i32_w]
         rfl
        refine pure_ (i := 6) (N := some 61) (v := ?_) (a' := ?_) #[true, true, true, true, true, true, true, false, false] rfl rfl (any_of HT_.out (by kernel_rfl)) (fun _ _ _ h => h) (Or.inl ⟨by rfl, ?_⟩) ?_ ?_
        rotate_left
        ·intro w'
         go_simp
         with_reducible rfl
        rotate_left
        ·simp only [Act.put, List.setIfInBounds_toArray, List.set_cons_zero, List.set_cons_succ, i64_w, i32_w]
         rfl
        refine one_ (i := 7) (N := some 62) #[true, true, true, true, true, true, true, true, false] rfl rfl (one_of HT_.out (by kernel_rfl)) (by decide) (fun K hK => ?_)
        have hj_ : 0 ≤ (a3 : Int) := of_decide_eq_true (by first | (with_reducible assumption) | assumption)
        have hl_ : (ji29 : Int) ≤ (t323.length : Int) := of_decide_eq_true (by first | (with_reducible assumption) | assumption)
        have hh_ : (a3 : Int) ≤ (t323.length : Int) := of_decide_eq_true (by first | (with_reducible assumption) | assumption)
        have hb_ := (Kd.R_reads' HO_9.out).2.2.2.1
        have h0_ : (0 : Int) ≤ (ji29 : Int) := of_decide_eq_true (by first | (with_reducible assumption) | assumption)
        have hy1_ := KY33.out
        have hk_ : (ji29 : Int).toNat = y326.length + 1 := (by have hw_ : (ji29 : Int) = a3 + 1 := (by have h00_ := h0_; rw [← hji29] at h00_ ⊢; unfold wrap64 at h00_ ⊢; omega); rw [hw_]; omega)
        refine Kd.R_delete_step Kd.string (w0 := w) w.heap.size (by rfl) (.tmp 57) (.tmp 61) 24 9 rfl Tryd.underlying24 (by kernel_rfl) (g := go37) (n := t323.length) (c := co34) (k := y326.length) rfl rfl ?hA ?hm (by (with_reducible repeat (first | apply Kd.R_alloc | apply Kd.R_drewN | apply Kd.R_drew)); exact HO_9.out) ?hk (by repeat (first | (with_reducible first | exact HB.out | apply below_alloc | apply pw_below_drewN | apply below_drew1) | exact HB.out)) (below_size (by repeat (first | (with_reducible first | exact HB.out | apply below_alloc | apply pw_below_drewN | apply below_drew1) | exact HB.out))) ?_
        (case hA => have ha_ := KA35.out; rw [hk_] at ha_; exact ha_)
        (case hm => have ha_ := KY35.out; omega)
        (case hk => omega)
        intro w36 ho hb hg
        clear hj_ hl_ hh_ hb_ hk_ h0_
        rw [hy1_, ← Ny334.out] at ho
        clear hy1_
        have hn_ : t323.length - 1 = y334.length := (by have := (Kd.R_reads' ho).1; omega)
        rw [hn_] at ho ⊢
        clear hn_
        have n0_ := Aside0.mk (ho)
        have n1_ := Aside0.mk (hb)
        clear HO_9
        clear HB
        have HO_9 := n0_
        have HB := n1_
        clear n0_ n1_
        clear ho hb hg
        refine hK.out _ _ trivial (fun hHeld => ?_)
        clear hK K
        refine norm_ (a' := ?_) ?_ ?_
        rotate_left
        ·show Act.put _ (some 62) _ = _
         simp only [Act.put, List.setIfInBounds_toArray, List.set_cons_zero, List.set_cons_succ, i64_w, i32_w]
         rfl
        refine pure_ (i := 8) (N := some 9) (v := ?_) (a' := ?_) #[true, true, true, true, true, true, true, true, true] rfl rfl (any_of HT_.out (by kernel_rfl)) (fun _ _ _ h => h) (Or.inl ⟨by rfl, ?_⟩) ?_ ?_
        rotate_left
        ·intro w'
         go_simp
         with_reducible rfl
        rotate_left
        ·simp only [Act.put, List.setIfInBounds_toArray, List.set_cons_zero, List.set_cons_succ, i64_w, i32_w]
         rfl
        refine done_ (done_of HT_.out (by kernel_rfl)) ?_
        try go_wp2
        go_meet
        case rel => exact ⟨_, (y334), H', ⟨by have := HJ4.out; have := HK2.out; have := HJ19.out; first | omega | exact Nat.le_refl _⟩, ⟨by (with_reducible repeat (first | apply Kd.R_alloc | apply Kd.R_drewN | apply Kd.R_drew)); exact HO_9.out⟩, ⟨by repeat (first | (with_reducible first | exact HB.out | apply below_alloc | apply pw_below_drewN | apply below_drew1) | exact HB.out)⟩⟩
       case rest =>
        clear HC25
        try clear c1
        try clear c2
        try clear p2
        try clear c3
        try clear p3
        try clear q3
        try clear hx3
        try clear c6
        try clear p6
        try clear c7
        try clear c8
        try clear c9
        try clear c10
        try clear c11
        try clear c11b0
        try clear c12
        try clear c12b0
        try clear c13
        try clear c13b0
        try clear c15
        try clear c16
        try clear c23
        try clear c23b0
        try clear c26
        try clear c27
        try clear c27b0
        try clear c27b1
        try clear c28
        try clear c28b0
        try clear c28b1
        try clear c30
        try clear c30b0
        try clear c30b1
        try clear c31
        try clear c31b0
        try clear c31b1
        try clear p31
        try clear q31
        try clear hx31
        try clear q33
        try clear c35
        try clear q35
        try clear hx316_0
        try clear p2
        try clear p3
        try clear p316
        try clear p6
        try clear q035
        try clear q3
        try clear q316
        try clear q33
        try clear q35
        obtain ⟨kq, x9_24, HA, HJ24, HO_9, HB⟩ := hcut
        cases kq with
        | zero => exact absurd HA.out (by simp [laws_FnPiecesAgainst.j3])
        | succ kj24 =>
         have H := HA.out
         clear HA
         simp only [laws_FnPiecesAgainst.j3] at H
         have H' := Aside0.mk H
         clear H
         obtain ⟨Ao38, co38, eo38⟩ := Kd.R_slice HO_9.out
         subst eo38
         go_wp2
         go_loopg [12, 65] kj24 (fun kq v12 v65 w' => ∃ (x12_5 : List (S40)) (x65_5 : Int), v65 = .int .i64 x65_5 ∧ Aside0 (laws_FnPiecesAgainst.l1 kq x12_5 x9_24 (x9_24.length : Int) x65_5 = some r) ∧ Aside0 (kq ≤ kj24) ∧ Aside0 (Kd.R k40 40 w' w.heap.size (fun _ => True) v12 x12_5) ∧ Aside0 (Kd.R Kd.string 9 w' w.heap.size (fun _ => True) (.slice Ao38 x9_24.length co38) x9_24) ∧ Aside0 (Below w.heap.size w w'))
         case atStart => exact ⟨(([] : List (S40))), (0), (by first | rfl | (simp; done) | (simp [*]; done)), H', ⟨Nat.le_refl _⟩, ⟨by first | exact Kd.R_nil _ _ _ _ _ | exact Kd.N_nil _ _ _ _ _ | exact Kd.V_nil _ _ _ _ _ | exact Kd.Q_nil _ _ _ _ _ | exact Kd.S_nil _ _ _ _ _⟩, ⟨by (with_reducible repeat (first | apply Kd.R_alloc | apply Kd.R_drewN | apply Kd.R_drew)); exact HO_9.out⟩, ⟨by repeat (first | (with_reducible first | exact HB.out | apply below_alloc | apply pw_below_drewN | apply below_drew1) | exact HB.out)⟩⟩
         case round =>
          clear H'
          try clear c1
          try clear c2
          try clear p2
          try clear c3
          try clear p3
          try clear q3
          try clear hx3
          try clear c6
          try clear p6
          try clear c7
          try clear c8
          try clear c9
          try clear c10
          try clear c11
          try clear c11b0
          try clear c12
          try clear c12b0
          try clear c13
          try clear c13b0
          try clear c15
          try clear c16
          try clear c23
          try clear c23b0
          try clear c26
          try clear c27
          try clear c27b0
          try clear c27b1
          try clear c28
          try clear c28b0
          try clear c28b1
          try clear c30
          try clear c30b0
          try clear c30b1
          try clear c31
          try clear c31b0
          try clear c31b1
          try clear p31
          try clear q31
          try clear hx31
          try clear q33
          try clear c35
          try clear q35
          try clear hx316_0
          try clear p2
          try clear p3
          try clear p31
          try clear p316
          try clear p6
          try clear q035
          try clear q3
          try clear q31
          try clear q316
          try clear q33
          try clear q35
          obtain ⟨x12_5, x65_5, rfl, HA, HK5, HO_12, HO_63, HB⟩ := hrel
          cases gk with
          | zero => exact absurd HA.out (by simp [laws_FnPiecesAgainst.l1])
          | succ k5 =>
           have H := HA.out
           clear HA
           simp only [laws_FnPiecesAgainst.l1] at H
           by_cases c39 : x65_5 < (x9_24.length : Int)
           ·rw [if_pos c39] at H
            have c39b0 : decide (x65_5 < (x9_24.length : Int)) = true := decide_eq_true c39
            clear c39
            by_cases c40 : 0 ≤ x65_5
            rotate_left
            ·rw [if_neg c40] at H
             exact absurd H (by simp)
            rw [if_pos c40] at H
            have c40b0 : decide (0 ≤ x65_5) = true := decide_eq_true c40
            clear c40
            by_cases c41 : x65_5 < (x9_24.length : Int)
            rotate_left
            ·rw [if_neg c41] at H
             exact absurd H (by simp)
            rw [if_pos c41] at H
            have c41b0 : decide (x65_5 < (x9_24.length : Int)) = true := decide_eq_true c41
            clear c41
            replace H := Option.bind_eq_some_iff.mp H
            obtain ⟨t338, A420, H⟩ := H
            replace H : ((some (([(⟨true, t338⟩ : S40), (⟨false, (⟨#[]⟩ : ByteArray)⟩ : S40)] : List (S40)) : List (S40))).bind fun y339 => (if x12_5.length + y339.length < 5864062014805 then (laws_FnPiecesAgainst.l1 k5 (x12_5 ++ y339) x9_24 (x9_24.length : Int) (wrap64 (x65_5 + 1))) else (none))) = some r := H
            have A42 := Aside0.mk A420
            clear A420
            obtain ⟨y339, hy339⟩ : ∃ y_ : List (S40), y_ = (([(⟨true, t338⟩ : S40), (⟨false, (⟨#[]⟩ : ByteArray)⟩ : S40)] : List (S40))) := ⟨_, rfl⟩
            replace H : (if x12_5.length + y339.length < 5864062014805 then (laws_FnPiecesAgainst.l1 k5 (x12_5 ++ y339) x9_24 (x9_24.length : Int) (wrap64 (x65_5 + 1))) else (none)) = some r := by first | (rw [hy339]; with_reducible exact H) | (have H2_ := (Option.bind_some _ _).symm.trans H; rw [hy339]; with_reducible exact H2_) | (have H2_ := (Option.bind_some _ _).symm.trans H; with_reducible exact H2_) | with_reducible exact H | (rw [hy339]; exact H) | exact H
            have Ny339 := Aside0.mk hy339
            clear hy339
            by_cases c43 : x12_5.length + y339.length < 5864062014805
            rotate_left
            ·rw [if_neg c43] at H
             exact absurd H (by simp)
            rw [if_pos c43] at H
            have LMc43 := Aside0.mk c43
            clear c43
            obtain ⟨y342, hy342⟩ : ∃ y_ : List (S40), y_ = (x12_5 ++ y339) := ⟨_, rfl⟩
            replace H : (laws_FnPiecesAgainst.l1 k5 y342 x9_24 (x9_24.length : Int) (wrap64 (x65_5 + 1))) = some r := by first | (rw [hy342]; with_reducible exact H) | (have H2_ := (Option.bind_some _ _).symm.trans H; rw [hy342]; with_reducible exact H2_) | (have H2_ := (Option.bind_some _ _).symm.trans H; with_reducible exact H2_) | with_reducible exact H | (rw [hy342]; exact H) | exact H
            have Ny342 := Aside0.mk hy342
            clear hy342
            have H' := Aside0.mk H
            clear H
            have p337 : 0 ≤ (x65_5 : Int) := of_decide_eq_true (by first | (with_reducible assumption) | assumption)
            have q337 : x65_5 < (x9_24.length : Int) := of_decide_eq_true (by first | (with_reducible assumption) | assumption)
            obtain ⟨ad337, e337, hx337_0⟩ := Kd.at_string (Kd.R_reads' HO_63.out).2.2 x65_5 p337 q337
            cases e337
            replace p337 := eq_true p337
            replace q337 := eq_true q337
            go_wp2_with (first | ((with_reducible refine gate_callee (f := 10) rfl ?_); refine goesL_ (some 73) rfl rfl Tryd.func10 (by kernel_rfl) rfl #[.int .i64 x65_5, .string (rdOf ByteArray.empty x9_24 x65_5)] rfl (by (try simp only [List.map_toArray, List.map_cons, List.map_nil]); first | done | rfl | (simp only [List.length_drop, List.length_take]; rfl)) ?_; (with_reducible refine (laws_record.calls k5 x65_5 (rdOf ByteArray.empty x9_24 x65_5) t338 _ A42.out).mono ?_); rintro e w44 ⟨rfl, hb⟩; refine ⟨_, rfl, ?_⟩; have n0_ := Aside0.mk (Kd.R_below (by (with_reducible repeat (first | apply Kd.R_alloc | apply Kd.R_drewN | apply Kd.R_drew)); exact HO_12.out) hb); have n1_ := Aside0.mk (Kd.R_below (by (with_reducible repeat (first | apply Kd.R_alloc | apply Kd.R_drewN | apply Kd.R_drew)); exact HO_63.out) hb); have n2_ := Aside0.mk (below_step (by repeat (first | (with_reducible first | exact HB.out | apply below_alloc | apply pw_below_drewN | apply below_drew1) | exact HB.out)) hb); clear HO_12; clear HO_63; clear HB; have HO_12 := n0_; have HO_63 := n1_; have HB := n2_; clear n0_ n1_ n2_; (try clear hb); (try clear hb2); (try clear hk); (try clear hi)) | ((with_reducible refine gate_dst (N := 76) rfl ?_); (try (refine gate_guard (by rfl) ?_; dsimp only)); refine Kd.R_lit k40 _ 40 ?hg (N := 76) ?hd (xs := ([(⟨true, t338⟩ : S40), (⟨false, (⟨#[]⟩ : ByteArray)⟩ : S40)] : List (S40))) (inner := [.bool true, .string t338, .bool false, .string (⟨#[]⟩ : ByteArray)]) (ok := fun _ => True) (okp := fun _ => True) ?hr ?hp (fun _ hk => hk) trivial (Below.refl _ _) (Nat.le_refl _) (by simp) ?_; (case hd => rfl); (case hg => rfl); (case hr => first | (go_simp; done) | (go_simp; rfl)); (case hp => exact (Reps.c2 (show Kd.M k40 _ _ _ (⟨true, t338⟩ : S40) [.bool true, .string t338] from (k40_mkM _ _ _ (⟨true, t338⟩ : S40) )) (Reps.c2 (show Kd.M k40 _ _ _ (⟨false, (⟨#[]⟩ : ByteArray)⟩ : S40) [.bool false, .string (⟨#[]⟩ : ByteArray)] from (k40_mkM _ _ _ (⟨false, (⟨#[]⟩ : ByteArray)⟩ : S40) )) (Reps.none _ _)))); intro v340 w45 ho46 hb hg_ hnew_; clear hg_ hnew_; (first | rw [← Ny339.out] at ho46 | (simp only [Int.reduceToNat] at ho46; rw [← Ny339.out] at ho46)); have n0_ := Aside0.mk (Kd.R_elder' (by (with_reducible repeat (first | apply Kd.R_alloc | apply Kd.R_drewN | apply Kd.R_drew)); exact HO_12.out) (Kd.R_base ho46) hb); have n1_ := Aside0.mk (Kd.R_below (by (with_reducible repeat (first | apply Kd.R_alloc | apply Kd.R_drewN | apply Kd.R_drew)); exact HO_63.out) hb); have n2_ := Aside0.mk (Kd.R_lower (Kd.R_new' ho46 (Kd.R_lt (by (with_reducible repeat (first | apply Kd.R_alloc | apply Kd.R_drewN | apply Kd.R_drew)); exact HO_12.out))) (below_size (by repeat (first | (with_reducible first | exact HB.out | apply below_alloc | apply pw_below_drewN | apply below_drew1) | exact HB.out)))); have n3_ := Aside0.mk (below_step (by repeat (first | (with_reducible first | exact HB.out | apply below_alloc | apply pw_below_drewN | apply below_drew1) | exact HB.out)) hb); clear HO_12; clear HO_63; clear HB; have HO_12 := n0_; have HO_63 := n1_; have HO341 := n2_; have HB := n3_; clear n0_ n1_ n2_ n3_; clear hb ho46; obtain ⟨Ao48, co48, eo48⟩ := Kd.R_slice HO341.out; subst eo48) | ((with_reducible refine gate_builtin (b := .append) (xs := #[.tmp 70, .tmp 76]) rfl ?_); (try (refine gate_guard (by rfl) ?_; dsimp only)); at_builtin; refine Kd.R_append_rows k40 (w0 := w) w.heap.size rfl (.tmp 70) (.tmp 76) 28 40 (.agg #[(.bool false), (.string ⟨#[]⟩)]) 24 rfl Tryd.underlying28 info40 rfl (by decide) (by omega) u12 x12_5 y339 _ _ _ (fun k_ => some k_ ≠ (.slice Ao48 y339.length co48 : Value).ownBlock) (fun _ => False) rfl rfl ?aO ?aR (fun _ _ h => h) (fun _ h => h.elim) ?aF ?aB ?aS ?aL ?_; (case aR => repeat (first | exact (Kd.R_reads' HO341.out).2.2 | (with_reducible refine Kd.C_alloc ?_ _) | (with_reducible refine Kd.C_drewN ?_ _) | (with_reducible refine Kd.C_drew ?_))); (case aB => exact (by repeat (first | (with_reducible first | exact HB.out | apply below_alloc | apply pw_below_drewN | apply below_drew1) | exact HB.out))); (case aF => exact (fun k_ hk => Kd.fresh' (Kd.R_lt (by (with_reducible repeat (first | apply Kd.R_alloc | apply Kd.R_drewN | apply Kd.R_drew)); exact HO341.out)) k_ hk)); (case aO => exact (by (with_reducible repeat (first | apply Kd.R_alloc | apply Kd.R_drewN | apply Kd.R_drew)); exact Kd.R_mono HO_12.out (fun _ hk => hk.2))); (case aS => exact (below_size (by repeat (first | (with_reducible first | exact HB.out | apply below_alloc | apply pw_below_drewN | apply below_drew1) | exact HB.out)))); (case aL => have := LMc43.out; omega); intro v343 w47 ho hb hg hat; rw [← Ny342.out] at ho; have n0_ := Aside0.mk (Kd.R_over' (by (with_reducible repeat (first | apply Kd.R_alloc | apply Kd.R_drewN | apply Kd.R_drew)); exact HO_63.out) (Kd.R_typed (by (with_reducible repeat (first | apply Kd.R_alloc | apply Kd.R_drewN | apply Kd.R_drew)); exact HO_12.out)) (by decide) hg); have n1_ := Aside0.mk (Kd.R_after (ok := (fun _ => True)) (by (with_reducible repeat (first | apply Kd.R_alloc | apply Kd.R_drewN | apply Kd.R_drew)); exact HO341.out) hg hat); have n2_ := Aside0.mk (hb); have n3_ := Aside0.mk (ho); clear HO_63; clear HO341; clear HB; clear HO_12; have HO_63 := n0_; have HO341 := n1_; have HB := n2_; have HO344 := n3_; clear n0_ n1_ n2_ n3_; clear ho hb hg hat))
            go_roundg k5
            case measure => have := HJ4.out; have := HK2.out; have := HJ19.out; have := HJ24.out; have := HK5.out; omega
            case rel => exact ⟨(y342), (wrap64 (x65_5 + 1)), (by first | rfl | (simp; done) | (simp [*]; done)), H', ⟨by have := HJ4.out; have := HK2.out; have := HJ19.out; have := HJ24.out; have := HK5.out; omega⟩, ⟨by (with_reducible repeat (first | apply Kd.R_alloc | apply Kd.R_drewN | apply Kd.R_drew)); exact Kd.R_mono HO344.out (fun _ hk => trivial)⟩, ⟨by (with_reducible repeat (first | apply Kd.R_alloc | apply Kd.R_drewN | apply Kd.R_drew)); exact HO_63.out⟩, ⟨by repeat (first | (with_reducible first | exact HB.out | apply below_alloc | apply pw_below_drewN | apply below_drew1) | exact HB.out)⟩⟩
           rw [if_neg c39] at H
           have c39b0 : decide (x65_5 < (x9_24.length : Int)) = false := decide_eq_false c39
           clear c39
           by_cases c49 : x12_5.length < 5864062014805
           rotate_left
           ·rw [if_neg c49] at H
            exact absurd H (by simp)
           rw [if_pos c49] at H
           have LMc49 := Aside0.mk c49
           clear c49
           obtain ⟨y345, hy345⟩ : ∃ y_ : List (S40), y_ = (x12_5 ++ [(⟨false, (⟨#[]⟩ : ByteArray)⟩ : S40)]) := ⟨_, rfl⟩
           replace H : ((spec_FragmentsKnown.f k5 y345).bind fun t348 => (if t348 = true then ((impl_Fragments.f k5 y345).bind fun t349 => ((spec_Fragments.f k5 y345).bind fun t352 => (if (t349.length : Int) = (y345.length : Int) then (laws_FnPiecesAgainst.j5 k5 t349 t352 ((t352.length : Int) != (y345.length : Int))) else (laws_FnPiecesAgainst.j5 k5 t349 t352 true)))) else (some true))) = some r := by first | (rw [hy345]; with_reducible exact H) | (have H2_ := (Option.bind_some _ _).symm.trans H; rw [hy345]; with_reducible exact H2_) | (have H2_ := (Option.bind_some _ _).symm.trans H; with_reducible exact H2_) | with_reducible exact H | (rw [hy345]; exact H) | exact H
           have Ny345 := Aside0.mk hy345
           clear hy345
           replace H := Option.bind_eq_some_iff.mp H
           obtain ⟨t348, A500, H⟩ := H
           replace H : (if t348 = true then ((impl_Fragments.f k5 y345).bind fun t349 => ((spec_Fragments.f k5 y345).bind fun t352 => (if (t349.length : Int) = (y345.length : Int) then (laws_FnPiecesAgainst.j5 k5 t349 t352 ((t352.length : Int) != (y345.length : Int))) else (laws_FnPiecesAgainst.j5 k5 t349 t352 true)))) else (some true)) = some r := H
           have A50 := Aside0.mk A500
           clear A500
           by_cases c51 : t348 = true
           rotate_left
           ·replace c51 := Bool.eq_false_iff.mpr c51
            subst c51
            have H1 : (some true) = some r := by rw [if_neg (show ¬ (false = true) by decide)] at H; exact H
            clear H
            have H := H1
            clear H1
            obtain rfl := Option.some.inj H
            go_wp2_with (first | ((with_reducible refine gate_builtin (b := .append) (xs := #[.tmp 79, .tmp 81]) rfl ?_); (try (refine gate_guard (by rfl) ?_; dsimp only)); at_builtin; refine Kd.R_append k40 (w0 := w) w.heap.size rfl (.tmp 79) (.tmp 81) 28 40 (.agg #[(.bool false), (.string ⟨#[]⟩)]) 24 rfl Tryd.underlying28 info40 rfl (by decide) (by omega) u12 x12_5 (⟨false, (⟨#[]⟩ : ByteArray)⟩ : S40) [.bool false, .string (⟨#[]⟩ : ByteArray)] (fun _ => True) (fun _ => False) rfl rfl ?aP (fun _ hk => hk.elim) ?aF ?aO ?aB ?aS ?aL ?_; (case aP => exact k40_mkM _ _ _ (⟨false, (⟨#[]⟩ : ByteArray)⟩ : S40)); (case aB => exact (by repeat (first | (with_reducible first | exact HB.out | apply below_alloc | apply pw_below_drewN | apply below_drew1) | exact HB.out))); (case aF => exact (fun _ _ => trivial)); (case aO => exact (by (with_reducible repeat (first | apply Kd.R_alloc | apply Kd.R_drewN | apply Kd.R_drew)); exact HO_12.out)); (case aS => exact (below_size (by repeat (first | (with_reducible first | exact HB.out | apply below_alloc | apply pw_below_drewN | apply below_drew1) | exact HB.out)))); (case aL => have := LMc49.out; omega); intro v346 w78 ho hb hg hat; rw [← Ny345.out] at ho; have n0_ := Aside0.mk (Kd.R_over' (by (with_reducible repeat (first | apply Kd.R_alloc | apply Kd.R_drewN | apply Kd.R_drew)); exact HO_63.out) (Kd.R_typed (by (with_reducible repeat (first | apply Kd.R_alloc | apply Kd.R_drewN | apply Kd.R_drew)); exact HO_12.out)) (by decide) hg); have n1_ := Aside0.mk (hb); have n2_ := Aside0.mk (ho); clear HO_63; clear HB; clear HO_12; have HO_63 := n0_; have HB := n1_; have HO347 := n2_; clear n0_ n1_ n2_; clear ho hb hg hat; obtain ⟨Ao79, co79, eo79⟩ := Kd.R_slice HO347.out; subst eo79) | ((with_reducible refine gate_callee (f := 17) rfl ?_); refine goesL_ (some 84) rfl rfl Tryd.func17 (by kernel_rfl) rfl #[.slice Ao79 y345.length co79] rfl (by (try simp only [List.map_toArray, List.map_cons, List.map_nil]); first | done | rfl | (simp only [List.length_drop, List.length_take]; rfl)) ?_; (with_reducible refine (spec_FragmentsKnown.calls k5 _ _ y345 false _ ?side1 ?side2 A50.out).mono ?_); (case side1 => repeat (first | exact (Kd.R_reads' HO347.out).2.2 | (with_reducible refine Kd.C_alloc ?_ _) | (with_reducible refine Kd.C_drewN ?_ _) | (with_reducible refine Kd.C_drew ?_))); (case side2 => exact (Kd.R_reads' HO347.out).2.1); rintro e w80 ⟨rfl, hb⟩; refine ⟨_, rfl, ?_⟩; have n0_ := Aside0.mk (Kd.R_below (by (with_reducible repeat (first | apply Kd.R_alloc | apply Kd.R_drewN | apply Kd.R_drew)); exact HO_63.out) hb); have n1_ := Aside0.mk (Kd.R_below (by (with_reducible repeat (first | apply Kd.R_alloc | apply Kd.R_drewN | apply Kd.R_drew)); exact HO347.out) hb); have n2_ := Aside0.mk (below_step (by repeat (first | (with_reducible first | exact HB.out | apply below_alloc | apply pw_below_drewN | apply below_drew1) | exact HB.out)) hb); clear HO_63; clear HO347; clear HB; have HO_63 := n0_; have HO347 := n1_; have HB := n2_; clear n0_ n1_ n2_; (try clear hb); (try clear hb2); (try clear hk); (try clear hi)))
            go_ret
            exact ⟨by first | rfl | (simp [errW_none, errW_some] <;> rfl) | (simp [*, errW_none, errW_some] <;> rfl), by repeat (first | (with_reducible first | exact HB.out | apply below_alloc | apply pw_below_drewN | apply below_drew1) | exact HB.out)⟩
           subst c51
           have H1 : ((impl_Fragments.f k5 y345).bind fun t349 => ((spec_Fragments.f k5 y345).bind fun t352 => (if (t349.length : Int) = (y345.length : Int) then (laws_FnPiecesAgainst.j5 k5 t349 t352 ((t352.length : Int) != (y345.length : Int))) else (laws_FnPiecesAgainst.j5 k5 t349 t352 true)))) = some r := by rw [if_pos rfl] at H; exact H
           clear H
           have H := H1
           clear H1
           replace H := Option.bind_eq_some_iff.mp H
           obtain ⟨t349, A520, H⟩ := H
           replace H : ((spec_Fragments.f k5 y345).bind fun t352 => (if (t349.length : Int) = (y345.length : Int) then (laws_FnPiecesAgainst.j5 k5 t349 t352 ((t352.length : Int) != (y345.length : Int))) else (laws_FnPiecesAgainst.j5 k5 t349 t352 true))) = some r := H
           have A52 := Aside0.mk A520
           clear A520
           replace H := Option.bind_eq_some_iff.mp H
           obtain ⟨t352, A530, H⟩ := H
           replace H : (if (t349.length : Int) = (y345.length : Int) then (laws_FnPiecesAgainst.j5 k5 t349 t352 ((t352.length : Int) != (y345.length : Int))) else (laws_FnPiecesAgainst.j5 k5 t349 t352 true)) = some r := H
           have A53 := Aside0.mk A530
           clear A530
           have HC54 := Aside0.mk H
           clear H
           go_upto_region 24 with (first | ((with_reducible refine gate_builtin (b := .append) (xs := #[.tmp 79, .tmp 81]) rfl ?_); (try (refine gate_guard (by rfl) ?_; dsimp only)); at_builtin; refine Kd.R_append k40 (w0 := w) w.heap.size rfl (.tmp 79) (.tmp 81) 28 40 (.agg #[(.bool false), (.string ⟨#[]⟩)]) 24 rfl Tryd.underlying28 info40 rfl (by decide) (by omega) u12 x12_5 (⟨false, (⟨#[]⟩ : ByteArray)⟩ : S40) [.bool false, .string (⟨#[]⟩ : ByteArray)] (fun _ => True) (fun _ => False) rfl rfl ?aP (fun _ hk => hk.elim) ?aF ?aO ?aB ?aS ?aL ?_; (case aP => exact k40_mkM _ _ _ (⟨false, (⟨#[]⟩ : ByteArray)⟩ : S40)); (case aB => exact (by repeat (first | (with_reducible first | exact HB.out | apply below_alloc | apply pw_below_drewN | apply below_drew1) | exact HB.out))); (case aF => exact (fun _ _ => trivial)); (case aO => exact (by (with_reducible repeat (first | apply Kd.R_alloc | apply Kd.R_drewN | apply Kd.R_drew)); exact HO_12.out)); (case aS => exact (below_size (by repeat (first | (with_reducible first | exact HB.out | apply below_alloc | apply pw_below_drewN | apply below_drew1) | exact HB.out)))); (case aL => have := LMc49.out; omega); intro v346 w55 ho hb hg hat; rw [← Ny345.out] at ho; have n0_ := Aside0.mk (Kd.R_over' (by (with_reducible repeat (first | apply Kd.R_alloc | apply Kd.R_drewN | apply Kd.R_drew)); exact HO_63.out) (Kd.R_typed (by (with_reducible repeat (first | apply Kd.R_alloc | apply Kd.R_drewN | apply Kd.R_drew)); exact HO_12.out)) (by decide) hg); have n1_ := Aside0.mk (hb); have n2_ := Aside0.mk (ho); clear HO_63; clear HB; clear HO_12; have HO_63 := n0_; have HB := n1_; have HO347 := n2_; clear n0_ n1_ n2_; clear ho hb hg hat; obtain ⟨Ao56, co56, eo56⟩ := Kd.R_slice HO347.out; subst eo56) | ((with_reducible refine gate_callee (f := 17) rfl ?_); refine goesL_ (some 84) rfl rfl Tryd.func17 (by kernel_rfl) rfl #[.slice Ao56 y345.length co56] rfl (by (try simp only [List.map_toArray, List.map_cons, List.map_nil]); first | done | rfl | (simp only [List.length_drop, List.length_take]; rfl)) ?_; (with_reducible refine (spec_FragmentsKnown.calls k5 _ _ y345 true _ ?side1 ?side2 A50.out).mono ?_); (case side1 => repeat (first | exact (Kd.R_reads' HO347.out).2.2 | (with_reducible refine Kd.C_alloc ?_ _) | (with_reducible refine Kd.C_drewN ?_ _) | (with_reducible refine Kd.C_drew ?_))); (case side2 => exact (Kd.R_reads' HO347.out).2.1); rintro e w57 ⟨rfl, hb⟩; refine ⟨_, rfl, ?_⟩; have n0_ := Aside0.mk (Kd.R_below (by (with_reducible repeat (first | apply Kd.R_alloc | apply Kd.R_drewN | apply Kd.R_drew)); exact HO_63.out) hb); have n1_ := Aside0.mk (Kd.R_below (by (with_reducible repeat (first | apply Kd.R_alloc | apply Kd.R_drewN | apply Kd.R_drew)); exact HO347.out) hb); have n2_ := Aside0.mk (below_step (by repeat (first | (with_reducible first | exact HB.out | apply below_alloc | apply pw_below_drewN | apply below_drew1) | exact HB.out)) hb); clear HO_63; clear HO347; clear HB; have HO_63 := n0_; have HO347 := n1_; have HB := n2_; clear n0_ n1_ n2_; (try clear hb); (try clear hb2); (try clear hk); (try clear hi)) | ((with_reducible refine gate_callee (f := 13) rfl ?_); refine goesL_ (some 87) rfl rfl Tryd.func13 (by kernel_rfl) rfl #[.slice Ao56 y345.length co56] rfl (by (try simp only [List.map_toArray, List.map_cons, List.map_nil]); first | done | rfl | (simp only [List.length_drop, List.length_take]; rfl)) ?_; (with_reducible refine (impl_Fragments.calls k5 _ _ y345 t349 _ ?side1 ?side2 A52.out (HGL.out.below (by repeat (first | (with_reducible first | exact HB.out | apply below_alloc | apply pw_below_drewN | apply below_drew1) | exact HB.out)) HGL.out.lt)).mono ?_); (case side1 => repeat (first | exact (Kd.R_reads' HO347.out).2.2 | (with_reducible refine Kd.C_alloc ?_ _) | (with_reducible refine Kd.C_drewN ?_ _) | (with_reducible refine Kd.C_drew ?_))); (case side2 => exact (Kd.R_reads' HO347.out).2.1); rintro e w58 ⟨v350, rfl, ho0, hb⟩; refine ⟨_, rfl, ?_⟩; have n0_ := Aside0.mk (Kd.R_below (by (with_reducible repeat (first | apply Kd.R_alloc | apply Kd.R_drewN | apply Kd.R_drew)); exact HO_63.out) hb); have n1_ := Aside0.mk (Kd.R_below (by (with_reducible repeat (first | apply Kd.R_alloc | apply Kd.R_drewN | apply Kd.R_drew)); exact HO347.out) hb); have n2_ := Aside0.mk (Kd.R_lower ho0 (below_size (by repeat (first | (with_reducible first | exact HB.out | apply below_alloc | apply pw_below_drewN | apply below_drew1) | exact HB.out)))); have n3_ := Aside0.mk (below_step (by repeat (first | (with_reducible first | exact HB.out | apply below_alloc | apply pw_below_drewN | apply below_drew1) | exact HB.out)) hb); clear HO_63; clear HO347; clear HB; have HO_63 := n0_; have HO347 := n1_; have HO351 := n2_; have HB := n3_; clear n0_ n1_ n2_ n3_; (try clear hb); (try clear hb2); (try clear hk); (try clear hi); (try clear ho0)) | ((with_reducible refine gate_callee (f := 18) rfl ?_); refine goesL_ (some 89) rfl rfl Tryd.func18 (by kernel_rfl) rfl #[.slice Ao56 y345.length co56] rfl (by (try simp only [List.map_toArray, List.map_cons, List.map_nil]); first | done | rfl | (simp only [List.length_drop, List.length_take]; rfl)) ?_; (with_reducible refine (spec_Fragments.calls k5 _ _ y345 t352 _ ?side1 ?side2 A53.out).mono ?_); (case side1 => repeat (first | exact (Kd.R_reads' HO347.out).2.2 | (with_reducible refine Kd.C_alloc ?_ _) | (with_reducible refine Kd.C_drewN ?_ _) | (with_reducible refine Kd.C_drew ?_))); (case side2 => exact (Kd.R_reads' HO347.out).2.1); rintro e w59 ⟨v353, rfl, ho0, hb⟩; refine ⟨_, rfl, ?_⟩; have n0_ := Aside0.mk (Kd.R_below (by (with_reducible repeat (first | apply Kd.R_alloc | apply Kd.R_drewN | apply Kd.R_drew)); exact HO_63.out) hb); have n1_ := Aside0.mk (Kd.R_below (by (with_reducible repeat (first | apply Kd.R_alloc | apply Kd.R_drewN | apply Kd.R_drew)); exact HO347.out) hb); have n2_ := Aside0.mk (Kd.R_elder' (by (with_reducible repeat (first | apply Kd.R_alloc | apply Kd.R_drewN | apply Kd.R_drew)); exact HO351.out) (Kd.R_base ho0) hb); have n3_ := Aside0.mk (Kd.R_lower (Kd.R_new' ho0 (Kd.R_lt (by (with_reducible repeat (first | apply Kd.R_alloc | apply Kd.R_drewN | apply Kd.R_drew)); exact HO351.out))) (below_size (by repeat (first | (with_reducible first | exact HB.out | apply below_alloc | apply pw_below_drewN | apply below_drew1) | exact HB.out)))); have n4_ := Aside0.mk (below_step (by repeat (first | (with_reducible first | exact HB.out | apply below_alloc | apply pw_below_drewN | apply below_drew1) | exact HB.out)) hb); clear HO_63; clear HO347; clear HO351; clear HB; have HO_63 := n0_; have HO347 := n1_; have HO351 := n2_; have HO354 := n3_; have HB := n4_; clear n0_ n1_ n2_ n3_ n4_; (try clear hb); (try clear hb2); (try clear hk); (try clear hi); (try clear ho0)))
           (try simp only [Act.put, List.setIfInBounds_toArray, List.set_cons_zero, List.set_cons_succ])
           go_cut [101] (fun v101 wc => ∃ (kq : Nat) (x101_53 : Bool), v101 = .bool x101_53 ∧ Aside0 (laws_FnPiecesAgainst.j5 kq t349 t352 x101_53 = some r) ∧ Aside0 (kq ≤ k5) ∧ Aside0 (Kd.R k43 43 wc w.heap.size (fun k_ => some k_ ≠ (v353 : Value).ownBlock) v350 t349) ∧ Aside0 (Kd.R k43 43 wc w.heap.size (fun k_ => some k_ ≠ (v350 : Value).ownBlock) v353 t352) ∧ Aside0 (Below w.heap.size w wc))
           case first => as_aux_lemma =>
            have H := HC54.out
            clear HC54
            by_cases c60 : (t349.length : Int) = (y345.length : Int)
            rotate_left
            ·rw [if_neg c60] at H
             have c60b0 : ((t349.length : Int) == (y345.length : Int)) = false := beq_eq_false_iff_ne.mpr c60
             have c60b1 : ((t349.length : Int) != (y345.length : Int)) = true := bne_iff_ne.mpr c60
             have c60b2 : (t349.length == y345.length) = false := by first | simpa using c60 | (simp at c60 ⊢; omega)
             (first | rw [c60b0] | (simp only [i64_w, i32_w]; rw [c60b0]) | skip)
             have H' := Aside0.mk H
             clear H
             obtain ⟨Ao63, co63, eo63⟩ := Kd.R_slice HO351.out
             subst eo63
             go_wp2
             go_meet
             case rel => exact ⟨_, (true), (by first | rfl | (simp; done) | (simp [*]; done)), H', ⟨by have := HJ4.out; have := HK2.out; have := HJ19.out; have := HJ24.out; have := HK5.out; first | omega | exact Nat.le_refl _⟩, ⟨by (with_reducible repeat (first | apply Kd.R_alloc | apply Kd.R_drewN | apply Kd.R_drew)); exact Kd.R_mono HO351.out (fun _ hk => hk.2)⟩, ⟨by (with_reducible repeat (first | apply Kd.R_alloc | apply Kd.R_drewN | apply Kd.R_drew)); exact Kd.R_mono HO354.out (fun _ hk => hk.2)⟩, ⟨by repeat (first | (with_reducible first | exact HB.out | apply below_alloc | apply pw_below_drewN | apply below_drew1) | exact HB.out)⟩⟩
            rw [if_pos c60] at H
            have c60b0 : ((t349.length : Int) == (y345.length : Int)) = true := beq_iff_eq.mpr c60
            have c60b1 : ((t349.length : Int) != (y345.length : Int)) = false := bne_eq_false_iff_eq.mpr c60
            have c60b2 : (t349.length == y345.length) = true := by first | simpa using c60 | (simp at c60 ⊢; omega)
            clear c60
            (first | rw [c60b0] | (simp only [i64_w, i32_w]; rw [c60b0]) | skip)
            have H' := Aside0.mk H
            clear H
            obtain ⟨Ao61, co61, eo61⟩ := Kd.R_slice HO351.out
            subst eo61
            obtain ⟨Ao62, co62, eo62⟩ := Kd.R_slice HO354.out
            subst eo62
            go_wp2
            go_meet
            case rel => exact ⟨_, (((t352.length : Int) != (y345.length : Int))), (by first | rfl | (simp; done) | (simp [*]; done)), H', ⟨by have := HJ4.out; have := HK2.out; have := HJ19.out; have := HJ24.out; have := HK5.out; first | omega | exact Nat.le_refl _⟩, ⟨by (with_reducible repeat (first | apply Kd.R_alloc | apply Kd.R_drewN | apply Kd.R_drew)); exact Kd.R_mono HO351.out (fun _ hk => hk.2)⟩, ⟨by (with_reducible repeat (first | apply Kd.R_alloc | apply Kd.R_drewN | apply Kd.R_drew)); exact Kd.R_mono HO354.out (fun _ hk => hk.2)⟩, ⟨by repeat (first | (with_reducible first | exact HB.out | apply below_alloc | apply pw_below_drewN | apply below_drew1) | exact HB.out)⟩⟩
           case rest =>
            clear HC54
            try clear c1
            try clear c2
            try clear p2
            try clear c3
            try clear p3
            try clear q3
            try clear hx3
            try clear c4
            try clear c5
            try clear c6
            try clear p6
            try clear c7
            try clear c8
            try clear c9
            try clear c10
            try clear c11
            try clear c11b0
            try clear c12
            try clear c12b0
            try clear c13
            try clear c13b0
            try clear c15
            try clear c16
            try clear c17
            try clear c18
            try clear c23
            try clear c23b0
            try clear c26
            try clear c27
            try clear c27b0
            try clear c27b1
            try clear c28
            try clear c28b0
            try clear c28b1
            try clear c30
            try clear c30b0
            try clear c30b1
            try clear c31
            try clear c31b0
            try clear c31b1
            try clear p31
            try clear q31
            try clear hx31
            try clear p33
            try clear q33
            try clear hx33
            try clear c35
            try clear q35
            try clear c39
            try clear c39b0
            try clear c40
            try clear c40b0
            try clear c41
            try clear c41b0
            try clear c43
            try clear c49
            try clear c51
            try clear c60
            try clear c60b0
            try clear c60b1
            try clear c60b2
            try clear hx316_0
            try clear hx337_0
            try clear p2
            try clear p3
            try clear p31
            try clear p316
            try clear p337
            try clear p6
            try clear q035
            try clear q3
            try clear q31
            try clear q316
            try clear q33
            try clear q337
            try clear q35
            obtain ⟨kq, x101_53, rfl, HA, HJ53, HO_15, HO_16, HB⟩ := hcut
            cases kq with
            | zero => exact absurd HA.out (by simp [laws_FnPiecesAgainst.j5])
            | succ kj53 =>
             have H := HA.out
             clear HA
             simp only [laws_FnPiecesAgainst.j5] at H
             by_cases c64 : x101_53 = true
             ·subst c64
              have H1 : (none) = some r := by rw [if_pos rfl] at H; exact H
              clear H
              have H := H1
              clear H1
              exact absurd H (by simp)
             replace c64 := Bool.eq_false_iff.mpr c64
             subst c64
             have H1 : (laws_FnPiecesAgainst.l2 kj53 t349 t352 (t349.length : Int) 0) = some r := by rw [if_neg (show ¬ (false = true) by decide)] at H; exact H
             clear H
             have H := H1
             clear H1
             have H' := Aside0.mk H
             clear H
             obtain ⟨Ao65, co65, eo65⟩ := Kd.R_slice HO_15.out
             subst eo65
             go_wp2
             go_loopg [104] kj53 (fun kq v104 w' => ∃ (x104_7 : Int), v104 = .int .i64 x104_7 ∧ Aside0 (laws_FnPiecesAgainst.l2 kq t349 t352 (t349.length : Int) x104_7 = some r) ∧ Aside0 (kq ≤ kj53) ∧ Aside0 (Kd.R k43 43 w' w.heap.size (fun k_ => some k_ ≠ (v353 : Value).ownBlock) (.slice Ao65 t349.length co65) t349) ∧ Aside0 (Kd.R k43 43 w' w.heap.size (fun k_ => some k_ ≠ ((.slice Ao65 t349.length co65) : Value).ownBlock) v353 t352) ∧ Aside0 (Below w.heap.size w w'))
             case atStart => exact ⟨(0), (by first | rfl | (simp; done) | (simp [*]; done)), H', ⟨Nat.le_refl _⟩, ⟨by (with_reducible repeat (first | apply Kd.R_alloc | apply Kd.R_drewN | apply Kd.R_drew)); exact HO_15.out⟩, ⟨by (with_reducible repeat (first | apply Kd.R_alloc | apply Kd.R_drewN | apply Kd.R_drew)); exact HO_16.out⟩, ⟨by repeat (first | (with_reducible first | exact HB.out | apply below_alloc | apply pw_below_drewN | apply below_drew1) | exact HB.out)⟩⟩
             case round =>
              clear H'
              try clear c1
              try clear c2
              try clear p2
              try clear c3
              try clear p3
              try clear q3
              try clear hx3
              try clear c4
              try clear c5
              try clear c6
              try clear p6
              try clear c7
              try clear c8
              try clear c9
              try clear c10
              try clear c11
              try clear c11b0
              try clear c12
              try clear c12b0
              try clear c13
              try clear c13b0
              try clear c15
              try clear c16
              try clear c17
              try clear c18
              try clear c23
              try clear c23b0
              try clear c26
              try clear c27
              try clear c27b0
              try clear c27b1
              try clear c28
              try clear c28b0
              try clear c28b1
              try clear c30
              try clear c30b0
              try clear c30b1
              try clear c31
              try clear c31b0
              try clear c31b1
              try clear p31
              try clear q31
              try clear hx31
              try clear p33
              try clear q33
              try clear hx33
              try clear c35
              try clear q35
              try clear c39
              try clear c39b0
              try clear c40
              try clear c40b0
              try clear c41
              try clear c41b0
              try clear c43
              try clear c49
              try clear c51
              try clear c60
              try clear c60b0
              try clear c60b1
              try clear c60b2
              try clear c64
              try clear p64
              try clear hx316_0
              try clear hx337_0
              try clear p2
              try clear p3
              try clear p31
              try clear p316
              try clear p33
              try clear p337
              try clear p6
              try clear q035
              try clear q3
              try clear q31
              try clear q316
              try clear q33
              try clear q337
              try clear q35
              obtain ⟨x104_7, rfl, HA, HK7, HO_15, HO_16, HB⟩ := hrel
              cases gk with
              | zero => exact absurd HA.out (by simp [laws_FnPiecesAgainst.l2])
              | succ k7 =>
               have H := HA.out
               clear HA
               simp only [laws_FnPiecesAgainst.l2] at H
               by_cases c66 : x104_7 < (t349.length : Int)
               rotate_left
               ·rw [if_neg c66] at H
                have c66b0 : decide (x104_7 < (t349.length : Int)) = false := decide_eq_false c66
                clear c66
                obtain rfl := Option.some.inj H
                go_wp2
                go_ret
                exact ⟨by first | rfl | (simp [errW_none, errW_some] <;> rfl) | (simp [*, errW_none, errW_some] <;> rfl), by repeat (first | (with_reducible first | exact HB.out | apply below_alloc | apply pw_below_drewN | apply below_drew1) | exact HB.out)⟩
               rw [if_pos c66] at H
               have c66b0 : decide (x104_7 < (t349.length : Int)) = true := decide_eq_true c66
               clear c66
               by_cases c67 : 0 ≤ x104_7
               rotate_left
               ·rw [if_neg c67] at H
                exact absurd H (by simp)
               rw [if_pos c67] at H
               have c67b0 : decide (0 ≤ x104_7) = true := decide_eq_true c67
               clear c67
               by_cases c68 : x104_7 < (t349.length : Int)
               rotate_left
               ·rw [if_neg c68] at H
                exact absurd H (by simp)
               rw [if_pos c68] at H
               have c68b0 : decide (x104_7 < (t349.length : Int)) = true := decide_eq_true c68
               clear c68
               by_cases c69 : x104_7 < (t352.length : Int)
               rotate_left
               ·rw [if_neg c69] at H
                exact absurd H (by simp)
               rw [if_pos c69] at H
               have c69b0 : decide (x104_7 < (t352.length : Int)) = true := decide_eq_true c69
               clear c69
               by_cases c70 : (((rd_T43 t349 x104_7).f3) != ((rd_T43 t352 x104_7).f3)) = true
               ·rw [if_pos c70] at H
                have c70b0 : (((rd_T43 t349 x104_7).f3) != ((rd_T43 t352 x104_7).f3)) = true := c70
                (try (have c70b1 : decide (((rd_T43 t349 x104_7).f3) = ((rd_T43 t352 x104_7).f3)) = false := by simpa using c70))
                (try (have c70b2 : (((rd_T43 t349 x104_7).f3) == ((rd_T43 t352 x104_7).f3)) = false := by simpa using c70))
                (try (have c70b3 : ¬ (((rd_T43 t349 x104_7).f3) = ((rd_T43 t352 x104_7).f3)) := by simpa using c70))
                clear c70
                exact absurd H (by simp)
               rw [if_neg c70] at H
               have c70b0 : (((rd_T43 t349 x104_7).f3) != ((rd_T43 t352 x104_7).f3)) = false := by simpa using c70
               (try (have c70b1 : decide (((rd_T43 t349 x104_7).f3) = ((rd_T43 t352 x104_7).f3)) = true := by simpa using c70))
               (try (have c70b2 : (((rd_T43 t349 x104_7).f3) == ((rd_T43 t352 x104_7).f3)) = true := by simpa using c70))
               clear c70
               by_cases c71 : ((rd_T43 t349 x104_7).f4).toList = ((rd_T43 t352 x104_7).f4).toList
               rotate_left
               ·rw [if_neg c71] at H
                have c71b0 : (((rd_T43 t349 x104_7).f4).toList == ((rd_T43 t352 x104_7).f4).toList) = false := beq_eq_false_iff_ne.mpr c71
                have c71b1 : (((rd_T43 t349 x104_7).f4).toList != ((rd_T43 t352 x104_7).f4).toList) = true := bne_iff_ne.mpr c71
                exact absurd H (by simp)
               rw [if_pos c71] at H
               have c71b0 : (((rd_T43 t349 x104_7).f4).toList == ((rd_T43 t352 x104_7).f4).toList) = true := beq_iff_eq.mpr c71
               have c71b1 : (((rd_T43 t349 x104_7).f4).toList != ((rd_T43 t352 x104_7).f4).toList) = false := bne_eq_false_iff_eq.mpr c71
               clear c71
               by_cases c72 : (((rd_T43 t349 x104_7).f2) != ((rd_T43 t352 x104_7).f2)) = true
               ·rw [if_pos c72] at H
                have c72b0 : (((rd_T43 t349 x104_7).f2) != ((rd_T43 t352 x104_7).f2)) = true := c72
                (try (have c72b1 : decide (((rd_T43 t349 x104_7).f2) = ((rd_T43 t352 x104_7).f2)) = false := by simpa using c72))
                (try (have c72b2 : (((rd_T43 t349 x104_7).f2) == ((rd_T43 t352 x104_7).f2)) = false := by simpa using c72))
                (try (have c72b3 : ¬ (((rd_T43 t349 x104_7).f2) = ((rd_T43 t352 x104_7).f2)) := by simpa using c72))
                clear c72
                exact absurd H (by simp)
               rw [if_neg c72] at H
               have c72b0 : (((rd_T43 t349 x104_7).f2) != ((rd_T43 t352 x104_7).f2)) = false := by simpa using c72
               (try (have c72b1 : decide (((rd_T43 t349 x104_7).f2) = ((rd_T43 t352 x104_7).f2)) = true := by simpa using c72))
               (try (have c72b2 : (((rd_T43 t349 x104_7).f2) == ((rd_T43 t352 x104_7).f2)) = true := by simpa using c72))
               clear c72
               by_cases c73 : (((rd_T43 t349 x104_7).f0) != ((rd_T43 t352 x104_7).f0)) = true
               ·rw [if_pos c73] at H
                have c73b0 : (((rd_T43 t349 x104_7).f0) != ((rd_T43 t352 x104_7).f0)) = true := c73
                (try (have c73b1 : decide (((rd_T43 t349 x104_7).f0) = ((rd_T43 t352 x104_7).f0)) = false := by simpa using c73))
                (try (have c73b2 : (((rd_T43 t349 x104_7).f0) == ((rd_T43 t352 x104_7).f0)) = false := by simpa using c73))
                (try (have c73b3 : ¬ (((rd_T43 t349 x104_7).f0) = ((rd_T43 t352 x104_7).f0)) := by simpa using c73))
                clear c73
                exact absurd H (by simp)
               rw [if_neg c73] at H
               have c73b0 : (((rd_T43 t349 x104_7).f0) != ((rd_T43 t352 x104_7).f0)) = false := by simpa using c73
               (try (have c73b1 : decide (((rd_T43 t349 x104_7).f0) = ((rd_T43 t352 x104_7).f0)) = true := by simpa using c73))
               (try (have c73b2 : (((rd_T43 t349 x104_7).f0) == ((rd_T43 t352 x104_7).f0)) = true := by simpa using c73))
               clear c73
               by_cases c74 : (((rd_T43 t349 x104_7).f1) != ((rd_T43 t352 x104_7).f1)) = true
               ·rw [if_pos c74] at H
                have c74b0 : (((rd_T43 t349 x104_7).f1) != ((rd_T43 t352 x104_7).f1)) = true := c74
                (try (have c74b1 : decide (((rd_T43 t349 x104_7).f1) = ((rd_T43 t352 x104_7).f1)) = false := by simpa using c74))
                (try (have c74b2 : (((rd_T43 t349 x104_7).f1) == ((rd_T43 t352 x104_7).f1)) = false := by simpa using c74))
                (try (have c74b3 : ¬ (((rd_T43 t349 x104_7).f1) = ((rd_T43 t352 x104_7).f1)) := by simpa using c74))
                clear c74
                exact absurd H (by simp)
               rw [if_neg c74] at H
               have c74b0 : (((rd_T43 t349 x104_7).f1) != ((rd_T43 t352 x104_7).f1)) = false := by simpa using c74
               (try (have c74b1 : decide (((rd_T43 t349 x104_7).f1) = ((rd_T43 t352 x104_7).f1)) = true := by simpa using c74))
               (try (have c74b2 : (((rd_T43 t349 x104_7).f1) == ((rd_T43 t352 x104_7).f1)) = true := by simpa using c74))
               clear c74
               by_cases c75 : ((rd_T43 t349 x104_7).f5) = ((rd_T43 t352 x104_7).f5)
               rotate_left
               ·rw [if_neg c75] at H
                exact absurd H (by simp)
               rw [if_pos c75] at H
               have c75b0 : (((rd_T43 t349 x104_7).f5) == ((rd_T43 t352 x104_7).f5)) = true := beq_iff_eq.mpr c75
               have c75b1 : (((rd_T43 t349 x104_7).f5) != ((rd_T43 t352 x104_7).f5)) = false := bne_eq_false_iff_eq.mpr c75
               clear c75
               have H' := Aside0.mk H
               clear H
               try go_wp2
               have n0_ := Aside0.mk (Kd.R_drew HO_15.out)
               have n1_ := Aside0.mk (Kd.R_drew HO_16.out)
               have n2_ := Aside0.mk (below_drew1 HB.out)
               clear HO_15
               clear HO_16
               clear HB
               have HO_15 := n0_
               have HO_16 := n1_
               have HB := n2_
               clear n0_ n1_ n2_
               have p355 : 0 ≤ (x104_7 : Int) := of_decide_eq_true (by first | (with_reducible assumption) | assumption)
               have q355 : x104_7 < (t349.length : Int) := of_decide_eq_true (by first | (with_reducible assumption) | assumption)
               obtain ⟨ad355, e355, hx355_0, hx355_1, hx355_2, hx355_3, hx355_4, hx355_5, hx355_6⟩ := at_T43 (Kd.R_reads' HO_15.out).2.2 x104_7 p355 q355
               cases e355
               replace p355 := eq_true p355
               replace q355 := eq_true q355
               obtain ⟨Ao77, co77, eo77⟩ := Kd.R_slice HO_16.out
               (first | subst eo77 | (injection eo77 with f1_ f2_ f3_; have f4_ := f1_.symm; have f5_ := f3_.symm; clear f1_ f2_ f3_; subst f4_; subst f5_))
               have p356 : 0 ≤ (x104_7 : Int) := of_decide_eq_true (by first | (with_reducible assumption) | assumption)
               have q356 : x104_7 < (t352.length : Int) := of_decide_eq_true (by first | (with_reducible assumption) | assumption)
               obtain ⟨ad356, e356, hx356_0, hx356_1, hx356_2, hx356_3, hx356_4, hx356_5, hx356_6⟩ := at_T43 (Kd.R_reads' HO_16.out).2.2 x104_7 p356 q356
               cases e356
               replace p356 := eq_true p356
               replace q356 := eq_true q356
               have p357 : 0 ≤ (x104_7 : Int) := of_decide_eq_true (by first | (with_reducible assumption) | assumption)
               have q357 : x104_7 < (t349.length : Int) := of_decide_eq_true (by first | (with_reducible assumption) | assumption)
               obtain ⟨ad357, e357, hx357_0, hx357_1, hx357_2, hx357_3, hx357_4, hx357_5, hx357_6⟩ := at_T43 (Kd.R_reads' HO_15.out).2.2 x104_7 p357 q357
               obtain rfl : ad355 = ad357 := (by injection e357)
               replace p357 := eq_true p357
               replace q357 := eq_true q357
               have p358 : 0 ≤ (x104_7 : Int) := of_decide_eq_true (by first | (with_reducible assumption) | assumption)
               have q358 : x104_7 < (t352.length : Int) := of_decide_eq_true (by first | (with_reducible assumption) | assumption)
               obtain ⟨ad358, e358, hx358_0, hx358_1, hx358_2, hx358_3, hx358_4, hx358_5, hx358_6⟩ := at_T43 (Kd.R_reads' HO_16.out).2.2 x104_7 p358 q358
               obtain rfl : ad356 = ad358 := (by injection e358)
               replace p358 := eq_true p358
               replace q358 := eq_true q358
               have p359 : 0 ≤ (x104_7 : Int) := of_decide_eq_true (by first | (with_reducible assumption) | assumption)
               have q359 : x104_7 < (t349.length : Int) := of_decide_eq_true (by first | (with_reducible assumption) | assumption)
               obtain ⟨ad359, e359, hx359_0, hx359_1, hx359_2, hx359_3, hx359_4, hx359_5, hx359_6⟩ := at_T43 (Kd.R_reads' HO_15.out).2.2 x104_7 p359 q359
               obtain rfl : ad355 = ad359 := (by injection e359)
               replace p359 := eq_true p359
               replace q359 := eq_true q359
               have p360 : 0 ≤ (x104_7 : Int) := of_decide_eq_true (by first | (with_reducible assumption) | assumption)
               have q360 : x104_7 < (t352.length : Int) := of_decide_eq_true (by first | (with_reducible assumption) | assumption)
               obtain ⟨ad360, e360, hx360_0, hx360_1, hx360_2, hx360_3, hx360_4, hx360_5, hx360_6⟩ := at_T43 (Kd.R_reads' HO_16.out).2.2 x104_7 p360 q360
               obtain rfl : ad356 = ad360 := (by injection e360)
               replace p360 := eq_true p360
               replace q360 := eq_true q360
               have p361 : 0 ≤ (x104_7 : Int) := of_decide_eq_true (by first | (with_reducible assumption) | assumption)
               have q361 : x104_7 < (t349.length : Int) := of_decide_eq_true (by first | (with_reducible assumption) | assumption)
               obtain ⟨ad361, e361, hx361_0, hx361_1, hx361_2, hx361_3, hx361_4, hx361_5, hx361_6⟩ := at_T43 (Kd.R_reads' HO_15.out).2.2 x104_7 p361 q361
               obtain rfl : ad355 = ad361 := (by injection e361)
               replace p361 := eq_true p361
               replace q361 := eq_true q361
               have p362 : 0 ≤ (x104_7 : Int) := of_decide_eq_true (by first | (with_reducible assumption) | assumption)
               have q362 : x104_7 < (t352.length : Int) := of_decide_eq_true (by first | (with_reducible assumption) | assumption)
               obtain ⟨ad362, e362, hx362_0, hx362_1, hx362_2, hx362_3, hx362_4, hx362_5, hx362_6⟩ := at_T43 (Kd.R_reads' HO_16.out).2.2 x104_7 p362 q362
               obtain rfl : ad356 = ad362 := (by injection e362)
               replace p362 := eq_true p362
               replace q362 := eq_true q362
               have p363 : 0 ≤ (x104_7 : Int) := of_decide_eq_true (by first | (with_reducible assumption) | assumption)
               have q363 : x104_7 < (t349.length : Int) := of_decide_eq_true (by first | (with_reducible assumption) | assumption)
               obtain ⟨ad363, e363, hx363_0, hx363_1, hx363_2, hx363_3, hx363_4, hx363_5, hx363_6⟩ := at_T43 (Kd.R_reads' HO_15.out).2.2 x104_7 p363 q363
               obtain rfl : ad355 = ad363 := (by injection e363)
               replace p363 := eq_true p363
               replace q363 := eq_true q363
               have p364 : 0 ≤ (x104_7 : Int) := of_decide_eq_true (by first | (with_reducible assumption) | assumption)
               have q364 : x104_7 < (t352.length : Int) := of_decide_eq_true (by first | (with_reducible assumption) | assumption)
               obtain ⟨ad364, e364, hx364_0, hx364_1, hx364_2, hx364_3, hx364_4, hx364_5, hx364_6⟩ := at_T43 (Kd.R_reads' HO_16.out).2.2 x104_7 p364 q364
               obtain rfl : ad356 = ad364 := (by injection e364)
               replace p364 := eq_true p364
               replace q364 := eq_true q364
               have p365 : 0 ≤ (x104_7 : Int) := of_decide_eq_true (by first | (with_reducible assumption) | assumption)
               have q365 : x104_7 < (t349.length : Int) := of_decide_eq_true (by first | (with_reducible assumption) | assumption)
               obtain ⟨ad365, e365, hx365_0, hx365_1, hx365_2, hx365_3, hx365_4, hx365_5, hx365_6⟩ := at_T43 (Kd.R_reads' HO_15.out).2.2 x104_7 p365 q365
               obtain rfl : ad355 = ad365 := (by injection e365)
               replace p365 := eq_true p365
               replace q365 := eq_true q365
               have p366 : 0 ≤ (x104_7 : Int) := of_decide_eq_true (by first | (with_reducible assumption) | assumption)
               have q366 : x104_7 < (t352.length : Int) := of_decide_eq_true (by first | (with_reducible assumption) | assumption)
               obtain ⟨ad366, e366, hx366_0, hx366_1, hx366_2, hx366_3, hx366_4, hx366_5, hx366_6⟩ := at_T43 (Kd.R_reads' HO_16.out).2.2 x104_7 p366 q366
               obtain rfl : ad356 = ad366 := (by injection e366)
               replace p366 := eq_true p366
               replace q366 := eq_true q366
               refine start_ (n := 76) (S := fun w' => w'.cell? (ad355.add ((x104_7).toNat * 7)) = some (.bool ((rd_T43 t349 x104_7).f0)) ∧ w'.cell? ⟨(ad355.add ((x104_7).toNat * 7)).block, (ad355.add ((x104_7).toNat * 7)).off + 1, none⟩ = some (.bool ((rd_T43 t349 x104_7).f1)) ∧ w'.cell? ⟨(ad355.add ((x104_7).toNat * 7)).block, (ad355.add ((x104_7).toNat * 7)).off + 2, none⟩ = some (.bool ((rd_T43 t349 x104_7).f2)) ∧ w'.cell? ⟨(ad355.add ((x104_7).toNat * 7)).block, (ad355.add ((x104_7).toNat * 7)).off + 3, none⟩ = some (.bool ((rd_T43 t349 x104_7).f3)) ∧ w'.cell? ⟨(ad355.add ((x104_7).toNat * 7)).block, (ad355.add ((x104_7).toNat * 7)).off + 4, none⟩ = some (.string ((rd_T43 t349 x104_7).f4)) ∧ w'.cell? ⟨(ad355.add ((x104_7).toNat * 7)).block, (ad355.add ((x104_7).toNat * 7)).off + 5, none⟩ = some (.int .u16 ((rd_T43 t349 x104_7).f5)) ∧ w'.cell? ⟨(ad355.add ((x104_7).toNat * 7)).block, (ad355.add ((x104_7).toNat * 7)).off + 6, none⟩ = some (.int .i64 ((rd_T43 t349 x104_7).f6)) ∧ w'.cell? (ad356.add ((x104_7).toNat * 7)) = some (.bool ((rd_T43 t352 x104_7).f0)) ∧ w'.cell? ⟨(ad356.add ((x104_7).toNat * 7)).block, (ad356.add ((x104_7).toNat * 7)).off + 1, none⟩ = some (.bool ((rd_T43 t352 x104_7).f1)) ∧ w'.cell? ⟨(ad356.add ((x104_7).toNat * 7)).block, (ad356.add ((x104_7).toNat * 7)).off + 2, none⟩ = some (.bool ((rd_T43 t352 x104_7).f2)) ∧ w'.cell? ⟨(ad356.add ((x104_7).toNat * 7)).block, (ad356.add ((x104_7).toNat * 7)).off + 3, none⟩ = some (.bool ((rd_T43 t352 x104_7).f3)) ∧ w'.cell? ⟨(ad356.add ((x104_7).toNat * 7)).block, (ad356.add ((x104_7).toNat * 7)).off + 4, none⟩ = some (.string ((rd_T43 t352 x104_7).f4)) ∧ w'.cell? ⟨(ad356.add ((x104_7).toNat * 7)).block, (ad356.add ((x104_7).toNat * 7)).off + 5, none⟩ = some (.int .u16 ((rd_T43 t352 x104_7).f5)) ∧ w'.cell? ⟨(ad356.add ((x104_7).toNat * 7)).block, (ad356.add ((x104_7).toNat * 7)).off + 6, none⟩ = some (.int .i64 ((rd_T43 t352 x104_7).f6)) ∧ w'.cell? (ad355.add ((x104_7).toNat * 7)) = some (.bool ((rd_T43 t349 x104_7).f0)) ∧ w'.cell? ⟨(ad355.add ((x104_7).toNat * 7)).block, (ad355.add ((x104_7).toNat * 7)).off + 1, none⟩ = some (.bool ((rd_T43 t349 x104_7).f1)) ∧ w'.cell? ⟨(ad355.add ((x104_7).toNat * 7)).block, (ad355.add ((x104_7).toNat * 7)).off + 2, none⟩ = some (.bool ((rd_T43 t349 x104_7).f2)) ∧ w'.cell? ⟨(ad355.add ((x104_7).toNat * 7)).block, (ad355.add ((x104_7).toNat * 7)).off + 3, none⟩ = some (.bool ((rd_T43 t349 x104_7).f3)) ∧ w'.cell? ⟨(ad355.add ((x104_7).toNat * 7)).block, (ad355.add ((x104_7).toNat * 7)).off + 4, none⟩ = some (.string ((rd_T43 t349 x104_7).f4)) ∧ w'.cell? ⟨(ad355.add ((x104_7).toNat * 7)).block, (ad355.add ((x104_7).toNat * 7)).off + 5, none⟩ = some (.int .u16 ((rd_T43 t349 x104_7).f5)) ∧ w'.cell? ⟨(ad355.add ((x104_7).toNat * 7)).block, (ad355.add ((x104_7).toNat * 7)).off + 6, none⟩ = some (.int .i64 ((rd_T43 t349 x104_7).f6)) ∧ w'.cell? (ad356.add ((x104_7).toNat * 7)) = some (.bool ((rd_T43 t352 x104_7).f0)) ∧ w'.cell? ⟨(ad356.add ((x104_7).toNat * 7)).block, (ad356.add ((x104_7).toNat * 7)).off + 1, none⟩ = some (.bool ((rd_T43 t352 x104_7).f1)) ∧ w'.cell? ⟨(ad356.add ((x104_7).toNat * 7)).block, (ad356.add ((x104_7).toNat * 7)).off + 2, none⟩ = some (.bool ((rd_T43 t352 x104_7).f2)) ∧ w'.cell? ⟨(ad356.add ((x104_7).toNat * 7)).block, (ad356.add ((x104_7).toNat * 7)).off + 3, none⟩ = some (.bool ((rd_T43 t352 x104_7).f3)) ∧ w'.cell? ⟨(ad356.add ((x104_7).toNat * 7)).block, (ad356.add ((x104_7).toNat * 7)).off + 4, none⟩ = some (.string ((rd_T43 t352 x104_7).f4)) ∧ w'.cell? ⟨(ad356.add ((x104_7).toNat * 7)).block, (ad356.add ((x104_7).toNat * 7)).off + 5, none⟩ = some (.int .u16 ((rd_T43 t352 x104_7).f5)) ∧ w'.cell? ⟨(ad356.add ((x104_7).toNat * 7)).block, (ad356.add ((x104_7).toNat * 7)).off + 6, none⟩ = some (.int .i64 ((rd_T43 t352 x104_7).f6)) ∧ w'.cell? (ad355.add ((x104_7).toNat * 7)) = some (.bool ((rd_T43 t349 x104_7).f0)) ∧ w'.cell? ⟨(ad355.add ((x104_7).toNat * 7)).block, (ad355.add ((x104_7).toNat * 7)).off + 1, none⟩ = some (.bool ((rd_T43 t349 x104_7).f1)) ∧ w'.cell? ⟨(ad355.add ((x104_7).toNat * 7)).block, (ad355.add ((x104_7).toNat * 7)).off + 2, none⟩ = some (.bool ((rd_T43 t349 x104_7).f2)) ∧ w'.cell? ⟨(ad355.add ((x104_7).toNat * 7)).block, (ad355.add ((x104_7).toNat * 7)).off + 3, none⟩ = some (.bool ((rd_T43 t349 x104_7).f3)) ∧ w'.cell? ⟨(ad355.add ((x104_7).toNat * 7)).block, (ad355.add ((x104_7).toNat * 7)).off + 4, none⟩ = some (.string ((rd_T43 t349 x104_7).f4)) ∧ w'.cell? ⟨(ad355.add ((x104_7).toNat * 7)).block, (ad355.add ((x104_7).toNat * 7)).off + 5, none⟩ = some (.int .u16 ((rd_T43 t349 x104_7).f5)) ∧ w'.cell? ⟨(ad355.add ((x104_7).toNat * 7)).block, (ad355.add ((x104_7).toNat * 7)).off + 6, none⟩ = some (.int .i64 ((rd_T43 t349 x104_7).f6)) ∧ w'.cell? (ad356.add ((x104_7).toNat * 7)) = some (.bool ((rd_T43 t352 x104_7).f0)) ∧ w'.cell? ⟨(ad356.add ((x104_7).toNat * 7)).block, (ad356.add ((x104_7).toNat * 7)).off + 1, none⟩ = some (.bool ((rd_T43 t352 x104_7).f1)) ∧ w'.cell? ⟨(ad356.add ((x104_7).toNat * 7)).block, (ad356.add ((x104_7).toNat * 7)).off + 2, none⟩ = some (.bool ((rd_T43 t352 x104_7).f2)) ∧ w'.cell? ⟨(ad356.add ((x104_7).toNat * 7)).block, (ad356.add ((x104_7).toNat * 7)).off + 3, none⟩ = some (.bool ((rd_T43 t352 x104_7).f3)) ∧ w'.cell? ⟨(ad356.add ((x104_7).toNat * 7)).block, (ad356.add ((x104_7).toNat * 7)).off + 4, none⟩ = some (.string ((rd_T43 t352 x104_7).f4)) ∧ w'.cell? ⟨(ad356.add ((x104_7).toNat * 7)).block, (ad356.add ((x104_7).toNat * 7)).off + 5, none⟩ = some (.int .u16 ((rd_T43 t352 x104_7).f5)) ∧ w'.cell? ⟨(ad356.add ((x104_7).toNat * 7)).block, (ad356.add ((x104_7).toNat * 7)).off + 6, none⟩ = some (.int .i64 ((rd_T43 t352 x104_7).f6)) ∧ w'.cell? (ad355.add ((x104_7).toNat * 7)) = some (.bool ((rd_T43 t349 x104_7).f0)) ∧ w'.cell? ⟨(ad355.add ((x104_7).toNat * 7)).block, (ad355.add ((x104_7).toNat * 7)).off + 1, none⟩ = some (.bool ((rd_T43 t349 x104_7).f1)) ∧ w'.cell? ⟨(ad355.add ((x104_7).toNat * 7)).block, (ad355.add ((x104_7).toNat * 7)).off + 2, none⟩ = some (.bool ((rd_T43 t349 x104_7).f2)) ∧ w'.cell? ⟨(ad355.add ((x104_7).toNat * 7)).block, (ad355.add ((x104_7).toNat * 7)).off + 3, none⟩ = some (.bool ((rd_T43 t349 x104_7).f3)) ∧ w'.cell? ⟨(ad355.add ((x104_7).toNat * 7)).block, (ad355.add ((x104_7).toNat * 7)).off + 4, none⟩ = some (.string ((rd_T43 t349 x104_7).f4)) ∧ w'.cell? ⟨(ad355.add ((x104_7).toNat * 7)).block, (ad355.add ((x104_7).toNat * 7)).off + 5, none⟩ = some (.int .u16 ((rd_T43 t349 x104_7).f5)) ∧ w'.cell? ⟨(ad355.add ((x104_7).toNat * 7)).block, (ad355.add ((x104_7).toNat * 7)).off + 6, none⟩ = some (.int .i64 ((rd_T43 t349 x104_7).f6)) ∧ w'.cell? (ad356.add ((x104_7).toNat * 7)) = some (.bool ((rd_T43 t352 x104_7).f0)) ∧ w'.cell? ⟨(ad356.add ((x104_7).toNat * 7)).block, (ad356.add ((x104_7).toNat * 7)).off + 1, none⟩ = some (.bool ((rd_T43 t352 x104_7).f1)) ∧ w'.cell? ⟨(ad356.add ((x104_7).toNat * 7)).block, (ad356.add ((x104_7).toNat * 7)).off + 2, none⟩ = some (.bool ((rd_T43 t352 x104_7).f2)) ∧ w'.cell? ⟨(ad356.add ((x104_7).toNat * 7)).block, (ad356.add ((x104_7).toNat * 7)).off + 3, none⟩ = some (.bool ((rd_T43 t352 x104_7).f3)) ∧ w'.cell? ⟨(ad356.add ((x104_7).toNat * 7)).block, (ad356.add ((x104_7).toNat * 7)).off + 4, none⟩ = some (.string ((rd_T43 t352 x104_7).f4)) ∧ w'.cell? ⟨(ad356.add ((x104_7).toNat * 7)).block, (ad356.add ((x104_7).toNat * 7)).off + 5, none⟩ = some (.int .u16 ((rd_T43 t352 x104_7).f5)) ∧ w'.cell? ⟨(ad356.add ((x104_7).toNat * 7)).block, (ad356.add ((x104_7).toNat * 7)).off + 6, none⟩ = some (.int .i64 ((rd_T43 t352 x104_7).f6)) ∧ w'.cell? (ad355.add ((x104_7).toNat * 7)) = some (.bool ((rd_T43 t349 x104_7).f0)) ∧ w'.cell? ⟨(ad355.add ((x104_7).toNat * 7)).block, (ad355.add ((x104_7).toNat * 7)).off + 1, none⟩ = some (.bool ((rd_T43 t349 x104_7).f1)) ∧ w'.cell? ⟨(ad355.add ((x104_7).toNat * 7)).block, (ad355.add ((x104_7).toNat * 7)).off + 2, none⟩ = some (.bool ((rd_T43 t349 x104_7).f2)) ∧ w'.cell? ⟨(ad355.add ((x104_7).toNat * 7)).block, (ad355.add ((x104_7).toNat * 7)).off + 3, none⟩ = some (.bool ((rd_T43 t349 x104_7).f3)) ∧ w'.cell? ⟨(ad355.add ((x104_7).toNat * 7)).block, (ad355.add ((x104_7).toNat * 7)).off + 4, none⟩ = some (.string ((rd_T43 t349 x104_7).f4)) ∧ w'.cell? ⟨(ad355.add ((x104_7).toNat * 7)).block, (ad355.add ((x104_7).toNat * 7)).off + 5, none⟩ = some (.int .u16 ((rd_T43 t349 x104_7).f5)) ∧ w'.cell? ⟨(ad355.add ((x104_7).toNat * 7)).block, (ad355.add ((x104_7).toNat * 7)).off + 6, none⟩ = some (.int .i64 ((rd_T43 t349 x104_7).f6)) ∧ w'.cell? (ad356.add ((x104_7).toNat * 7)) = some (.bool ((rd_T43 t352 x104_7).f0)) ∧ w'.cell? ⟨(ad356.add ((x104_7).toNat * 7)).block, (ad356.add ((x104_7).toNat * 7)).off + 1, none⟩ = some (.bool ((rd_T43 t352 x104_7).f1)) ∧ w'.cell? ⟨(ad356.add ((x104_7).toNat * 7)).block, (ad356.add ((x104_7).toNat * 7)).off + 2, none⟩ = some (.bool ((rd_T43 t352 x104_7).f2)) ∧ w'.cell? ⟨(ad356.add ((x104_7).toNat * 7)).block, (ad356.add ((x104_7).toNat * 7)).off + 3, none⟩ = some (.bool ((rd_T43 t352 x104_7).f3)) ∧ w'.cell? ⟨(ad356.add ((x104_7).toNat * 7)).block, (ad356.add ((x104_7).toNat * 7)).off + 4, none⟩ = some (.string ((rd_T43 t352 x104_7).f4)) ∧ w'.cell? ⟨(ad356.add ((x104_7).toNat * 7)).block, (ad356.add ((x104_7).toNat * 7)).off + 5, none⟩ = some (.int .u16 ((rd_T43 t352 x104_7).f5)) ∧ w'.cell? ⟨(ad356.add ((x104_7).toNat * 7)).block, (ad356.add ((x104_7).toNat * 7)).off + 6, none⟩ = some (.int .i64 ((rd_T43 t352 x104_7).f6)) ∧ w'.cell? (ad355.add ((x104_7).toNat * 7)) = some (.bool ((rd_T43 t349 x104_7).f0)) ∧ w'.cell? ⟨(ad355.add ((x104_7).toNat * 7)).block, (ad355.add ((x104_7).toNat * 7)).off + 1, none⟩ = some (.bool ((rd_T43 t349 x104_7).f1)) ∧ w'.cell? ⟨(ad355.add ((x104_7).toNat * 7)).block, (ad355.add ((x104_7).toNat * 7)).off + 2, none⟩ = some (.bool ((rd_T43 t349 x104_7).f2)) ∧ w'.cell? ⟨(ad355.add ((x104_7).toNat * 7)).block, (ad355.add ((x104_7).toNat * 7)).off + 3, none⟩ = some (.bool ((rd_T43 t349 x104_7).f3)) ∧ w'.cell? ⟨(ad355.add ((x104_7).toNat * 7)).block, (ad355.add ((x104_7).toNat * 7)).off + 4, none⟩ = some (.string ((rd_T43 t349 x104_7).f4)) ∧ w'.cell? ⟨(ad355.add ((x104_7).toNat * 7)).block, (ad355.add ((x104_7).toNat * 7)).off + 5, none⟩ = some (.int .u16 ((rd_T43 t349 x104_7).f5)) ∧ w'.cell? ⟨(ad355.add ((x104_7).toNat * 7)).block, (ad355.add ((x104_7).toNat * 7)).off + 6, none⟩ = some (.int .i64 ((rd_T43 t349 x104_7).f6)) ∧ w'.cell? (ad356.add ((x104_7).toNat * 7)) = some (.bool ((rd_T43 t352 x104_7).f0)) ∧ w'.cell? ⟨(ad356.add ((x104_7).toNat * 7)).block, (ad356.add ((x104_7).toNat * 7)).off + 1, none⟩ = some (.bool ((rd_T43 t352 x104_7).f1)) ∧ w'.cell? ⟨(ad356.add ((x104_7).toNat * 7)).block, (ad356.add ((x104_7).toNat * 7)).off + 2, none⟩ = some (.bool ((rd_T43 t352 x104_7).f2)) ∧ w'.cell? ⟨(ad356.add ((x104_7).toNat * 7)).block, (ad356.add ((x104_7).toNat * 7)).off + 3, none⟩ = some (.bool ((rd_T43 t352 x104_7).f3)) ∧ w'.cell? ⟨(ad356.add ((x104_7).toNat * 7)).block, (ad356.add ((x104_7).toNat * 7)).off + 4, none⟩ = some (.string ((rd_T43 t352 x104_7).f4)) ∧ w'.cell? ⟨(ad356.add ((x104_7).toNat * 7)).block, (ad356.add ((x104_7).toNat * 7)).off + 5, none⟩ = some (.int .u16 ((rd_T43 t352 x104_7).f5)) ∧ w'.cell? ⟨(ad356.add ((x104_7).toNat * 7)).block, (ad356.add ((x104_7).toNat * 7)).off + 6, none⟩ = some (.int .i64 ((rd_T43 t352 x104_7).f6))) (ds := []) #[false, false, false, false, false, false, false, false, false, false, false, false, false, false, false, false, false, false, false, false, false, false, false, false, false, false, false, false, false, false, false, false, false, false, false, false, false, false, false, false, false, false, false, false, false, false, false, false, false, false, false, false, false, false, false, false, false, false, false, false, false, false, false, false, false, false, false, false, false, false, false, false, false, false, false, false] (by kernel_rfl) rfl rfl ⟨hx355_0, hx355_1, hx355_2, hx355_3, hx355_4, hx355_5, hx355_6, hx356_0, hx356_1, hx356_2, hx356_3, hx356_4, hx356_5, hx356_6, hx357_0, hx357_1, hx357_2, hx357_3, hx357_4, hx357_5, hx357_6, hx358_0, hx358_1, hx358_2, hx358_3, hx358_4, hx358_5, hx358_6, hx359_0, hx359_1, hx359_2, hx359_3, hx359_4, hx359_5, hx359_6, hx360_0, hx360_1, hx360_2, hx360_3, hx360_4, hx360_5, hx360_6, hx361_0, hx361_1, hx361_2, hx361_3, hx361_4, hx361_5, hx361_6, hx362_0, hx362_1, hx362_2, hx362_3, hx362_4, hx362_5, hx362_6, hx363_0, hx363_1, hx363_2, hx363_3, hx363_4, hx363_5, hx363_6, hx364_0, hx364_1, hx364_2, hx364_3, hx364_4, hx364_5, hx364_6, hx365_0, hx365_1, hx365_2, hx365_3, hx365_4, hx365_5, hx365_6, hx366_0, hx366_1, hx366_2, hx366_3, hx366_4, hx366_5, hx366_6⟩ (fun hHeld => ?_); refine with_tabW laws_FnPiecesAgainst.tab29 laws_FnPiecesAgainst.bits29 (fun HT_ HW_ => ?_)
               generalize wr.drew = w76 at HO_15 HO_16 HB hx355_0 hx355_1 hx355_2 hx355_3 hx355_4 hx355_5 hx355_6 hx356_0 hx356_1 hx356_2 hx356_3 hx356_4 hx356_5 hx356_6 hx357_0 hx357_1 hx357_2 hx357_3 hx357_4 hx357_5 hx357_6 hx358_0 hx358_1 hx358_2 hx358_3 hx358_4 hx358_5 hx358_6 hx359_0 hx359_1 hx359_2 hx359_3 hx359_4 hx359_5 hx359_6 hx360_0 hx360_1 hx360_2 hx360_3 hx360_4 hx360_5 hx360_6 hx361_0 hx361_1 hx361_2 hx361_3 hx361_4 hx361_5 hx361_6 hx362_0 hx362_1 hx362_2 hx362_3 hx362_4 hx362_5 hx362_6 hx363_0 hx363_1 hx363_2 hx363_3 hx363_4 hx363_5 hx363_6 hx364_0 hx364_1 hx364_2 hx364_3 hx364_4 hx364_5 hx364_6 hx365_0 hx365_1 hx365_2 hx365_3 hx365_4 hx365_5 hx365_6 hx366_0 hx366_1 hx366_2 hx366_3 hx366_4 hx366_5 hx366_6 hHeld ⊢
               refine pure_ (i := 0) (N := some 107) (v := ?_) (a' := ?_) #[true, false, false, false, false, false, false, false, false, false, false, false, false, false, false, false, false, false, false, false, false, false, false, false, false, false, false, false, false, false, false, false, false, false, false, false, false, false, false, false, false, false, false, false, false, false, false, false, false, false, false, false, false, false, false, false, false, false, false, false, false, false, false, false, false, false, false, false, false, false, false, false, false, false, false, false] rfl rfl (any_of HT_.out (by kernel_rfl)) (fun _ _ _ h => h) (Or.inl ⟨by rfl, ?_⟩) ?_ ?_
               rotate_left
               ·intro w'
                go_simp
                with_reducible rfl
               rotate_left
               ·simp only [Act.put, List.setIfInBounds_toArray, List.set_cons_zero, List.set_cons_succ, i64_w, i32_w]
                rfl
               refine pure_ (i := 1) (N := some 108) (v := ?_) (a' := ?_) #[true, true, false, false, false, false, false, false, false, false, false, false, false, false, false, false, false, false, false, false, false, false, false, false, false, false, false, false, false, false, false, false, false, false, false, false, false, false, false, false, false, false, false, false, false, false, false, false, false, false, false, false, false, false, false, false, false, false, false, false, false, false, false, false, false, false, false, false, false, false, false, false, false, false, false, false] rfl rfl (any_of HT_.out (by kernel_rfl)) (fun _ _ _ h => h) (Or.inl ⟨by rfl, ?_⟩) ?_ ?_
               rotate_left
               ·intro w'
                go_simp
                with_reducible rfl
               rotate_left
               ·simp only [Act.put, List.setIfInBounds_toArray, List.set_cons_zero, List.set_cons_succ, i64_w, i32_w]
                rfl
               refine pure_ (i := 2) (N := some 109) (v := ?_) (a' := ?_) #[true, true, true, false, false, false, false, false, false, false, false, false, false, false, false, false, false, false, false, false, false, false, false, false, false, false, false, false, false, false, false, false, false, false, false, false, false, false, false, false, false, false, false, false, false, false, false, false, false, false, false, false, false, false, false, false, false, false, false, false, false, false, false, false, false, false, false, false, false, false, false, false, false, false, false, false] rfl rfl (any_of HT_.out (by kernel_rfl)) (fun _ _ _ h => h) (Or.inl ⟨by rfl, ?_⟩) ?_ ?_
               rotate_left
               ·intro w'
                go_simp
                with_reducible rfl
               rotate_left
               ·simp only [Act.put, List.setIfInBounds_toArray, List.set_cons_zero, List.set_cons_succ, i64_w, i32_w]
                rfl
               refine pure_ (i := 3) (N := some 110) (v := ?_) (a' := ?_) #[true, true, true, true, false, false, false, false, false, false, false, false, false, false, false, false, false, false, false, false, false, false, false, false, false, false, false, false, false, false, false, false, false, false, false, false, false, false, false, false, false, false, false, false, false, false, false, false, false, false, false, false, false, false, false, false, false, false, false, false, false, false, false, false, false, false, false, false, false, false, false, false, false, false, false, false] rfl rfl (any_of HT_.out (by kernel_rfl)) (fun _ _ _ h => h) (Or.inl ⟨by rfl, ?_⟩) ?_ ?_
               rotate_left
               ·intro w'
                go_simp
                with_reducible rfl
               rotate_left
               ·simp only [Act.put, List.setIfInBounds_toArray, List.set_cons_zero, List.set_cons_succ, i64_w, i32_w]
                rfl
               refine pure_ (i := 5) (N := some 112) (v := ?_) (a' := ?_) #[true, true, true, true, false, true, false, false, false, false, false, false, false, false, false, false, false, false, false, false, false, false, false, false, false, false, false, false, false, false, false, false, false, false, false, false, false, false, false, false, false, false, false, false, false, false, false, false, false, false, false, false, false, false, false, false, false, false, false, false, false, false, false, false, false, false, false, false, false, false, false, false, false, false, false, false] rfl rfl (any_of HT_.out (by kernel_rfl)) (fun _ _ _ h => h) (Or.inl ⟨by rfl, ?_⟩) ?_ ?_
               rotate_left
               ·intro w'
                go_simp
                with_reducible rfl
               rotate_left
               ·simp only [Act.put, List.setIfInBounds_toArray, List.set_cons_zero, List.set_cons_succ, i64_w, i32_w]
                rfl
               refine pure_ (i := 6) (N := some 113) (v := ?_) (a' := ?_) #[true, true, true, true, false, true, true, false, false, false, false, false, false, false, false, false, false, false, false, false, false, false, false, false, false, false, false, false, false, false, false, false, false, false, false, false, false, false, false, false, false, false, false, false, false, false, false, false, false, false, false, false, false, false, false, false, false, false, false, false, false, false, false, false, false, false, false, false, false, false, false, false, false, false, false, false] rfl rfl (any_of HT_.out (by kernel_rfl)) (fun _ _ _ h => h) (Or.inl ⟨by rfl, ?_⟩) ?_ ?_
               rotate_left
               ·intro w'
                go_simp
                with_reducible rfl
               rotate_left
               ·simp only [Act.put, List.setIfInBounds_toArray, List.set_cons_zero, List.set_cons_succ, i64_w, i32_w]
                rfl
               refine pure_ (i := 7) (N := some 114) (v := ?_) (a' := ?_) #[true, true, true, true, false, true, true, true, false, false, false, false, false, false, false, false, false, false, false, false, false, false, false, false, false, false, false, false, false, false, false, false, false, false, false, false, false, false, false, false, false, false, false, false, false, false, false, false, false, false, false, false, false, false, false, false, false, false, false, false, false, false, false, false, false, false, false, false, false, false, false, false, false, false, false, false] rfl rfl (any_of HT_.out (by kernel_rfl)) (fun _ _ _ h => h) (Or.inl ⟨by rfl, ?_⟩) ?_ ?_
               rotate_left
               ·intro w'
                go_simp
                with_reducible rfl
               rotate_left
               ·simp only [Act.put, List.setIfInBounds_toArray, List.set_cons_zero, List.set_cons_succ, i64_w, i32_w]
                rfl
               refine pure_ (i := 8) (N := some 115) (v := ?_) (a' := ?_) #[true, true, true, true, false, true, true, true, true, false, false, false, false, false, false, false, false, false, false, false, false, false, false, false, false, false, false, false, false, false, false, false, false, false, false, false, false, false, false, false, false, false, false, false, false, false, false, false, false, false, false, false, false, false, false, false, false, false, false, false, false, false, false, false, false, false, false, false, false, false, false, false, false, false, false, false] rfl rfl (any_of HT_.out (by kernel_rfl)) (fun _ _ _ h => h) (Or.inl ⟨by rfl, ?_⟩) ?_ ?_
               rotate_left
               ·intro w'
                go_simp
                with_reducible rfl
               rotate_left
               ·simp only [Act.put, List.setIfInBounds_toArray, List.set_cons_zero, List.set_cons_succ, i64_w, i32_w]
                rfl
               refine take_ (i := 4) (N := some 111) (v := ?_) (a' := ?_) #[true, true, true, true, true, true, true, true, true, false, false, false, false, false, false, false, false, false, false, false, false, false, false, false, false, false, false, false, false, false, false, false, false, false, false, false, false, false, false, false, false, false, false, false, false, false, false, false, false, false, false, false, false, false, false, false, false, false, false, false, false, false, false, false, false, false, false, false, false, false, false, false, false, false, false, false] rfl rfl (take_ofW HT_.out HW_.out (by kernel_rfl)) (fun _ _ _ h => h) (Or.inl ⟨by rfl, ?_⟩) hHeld ?_ ?_
               rotate_left
               ·rintro w' ⟨s0, s1, s2, s3, s4, s5, s6, s7, s8, s9, s10, s11, s12, s13, s14, s15, s16, s17, s18, s19, s20, s21, s22, s23, s24, s25, s26, s27, s28, s29, s30, s31, s32, s33, s34, s35, s36, s37, s38, s39, s40, s41, s42, s43, s44, s45, s46, s47, s48, s49, s50, s51, s52, s53, s54, s55, s56, s57, s58, s59, s60, s61, s62, s63, s64, s65, s66, s67, s68, s69, s70, s71, s72, s73, s74, s75, s76, s77, s78, s79, s80, s81, s82, s83⟩
                go_simp
                with_reducible rfl
               rotate_left
               ·simp only [Act.put, List.setIfInBounds_toArray, List.set_cons_zero, List.set_cons_succ, i64_w, i32_w]
                rfl
               refine take_ (i := 9) (N := some 116) (v := ?_) (a' := ?_) #[true, true, true, true, true, true, true, true, true, true, false, false, false, false, false, false, false, false, false, false, false, false, false, false, false, false, false, false, false, false, false, false, false, false, false, false, false, false, false, false, false, false, false, false, false, false, false, false, false, false, false, false, false, false, false, false, false, false, false, false, false, false, false, false, false, false, false, false, false, false, false, false, false, false, false, false] rfl rfl (take_ofW HT_.out HW_.out (by kernel_rfl)) (fun _ _ _ h => h) (Or.inl ⟨by rfl, ?_⟩) hHeld ?_ ?_
               rotate_left
               ·rintro w' ⟨s0, s1, s2, s3, s4, s5, s6, s7, s8, s9, s10, s11, s12, s13, s14, s15, s16, s17, s18, s19, s20, s21, s22, s23, s24, s25, s26, s27, s28, s29, s30, s31, s32, s33, s34, s35, s36, s37, s38, s39, s40, s41, s42, s43, s44, s45, s46, s47, s48, s49, s50, s51, s52, s53, s54, s55, s56, s57, s58, s59, s60, s61, s62, s63, s64, s65, s66, s67, s68, s69, s70, s71, s72, s73, s74, s75, s76, s77, s78, s79, s80, s81, s82, s83⟩
                go_simp
                with_reducible rfl
               rotate_left
               ·simp only [Act.put, List.setIfInBounds_toArray, List.set_cons_zero, List.set_cons_succ, i64_w, i32_w]
                rfl
               refine pure_ (i := 10) (N := some 117) (v := ?_) (a' := ?_) #[true, true, true, true, true, true, true, true, true, true, true, false, false, false, false, false, false, false, false, false, false, false, false, false, false, false, false, false, false, false, false, false, false, false, false, false, false, false, false, false, false, false, false, false, false, false, false, false, false, false, false, false, false, false, false, false, false, false, false, false, false, false, false, false, false, false, false, false, false, false, false, false, false, false, false, false] rfl rfl (any_of HT_.out (by kernel_rfl)) (fun _ _ _ h => h) (Or.inl ⟨by rfl, ?_⟩) ?_ ?_
               rotate_left
               ·intro w'
                go_simp
                with_reducible rfl
               rotate_left
               ·simp only [Act.put, List.setIfInBounds_toArray, List.set_cons_zero, List.set_cons_succ, i64_w, i32_w]
                rfl
               refine pure_ (i := 11) (N := some 118) (v := ?_) (a' := ?_) #[true, true, true, true, true, true, true, true, true, true, true, true, false, false, false, false, false, false, false, false, false, false, false, false, false, false, false, false, false, false, false, false, false, false, false, false, false, false, false, false, false, false, false, false, false, false, false, false, false, false, false, false, false, false, false, false, false, false, false, false, false, false, false, false, false, false, false, false, false, false, false, false, false, false, false, false] rfl rfl (any_of HT_.out (by kernel_rfl)) (fun _ _ _ h => h) (Or.inl ⟨by rfl, ?_⟩) ?_ ?_
               rotate_left
               ·intro w'
                go_simp
                with_reducible rfl
               rotate_left
               ·simp only [Act.put, List.setIfInBounds_toArray, List.set_cons_zero, List.set_cons_succ, i64_w, i32_w]
                rfl
               refine pure_ (i := 12) (N := some 119) (v := ?_) (a' := ?_) #[true, true, true, true, true, true, true, true, true, true, true, true, true, false, false, false, false, false, false, false, false, false, false, false, false, false, false, false, false, false, false, false, false, false, false, false, false, false, false, false, false, false, false, false, false, false, false, false, false, false, false, false, false, false, false, false, false, false, false, false, false, false, false, false, false, false, false, false, false, false, false, false, false, false, false, false] rfl rfl (any_of HT_.out (by kernel_rfl)) (fun _ _ _ h => h) (Or.inl ⟨by rfl, ?_⟩) ?_ ?_
               rotate_left
               ·intro w'
                go_simp
                with_reducible rfl
               rotate_left
               ·simp only [Act.put, List.setIfInBounds_toArray, List.set_cons_zero, List.set_cons_succ, i64_w, i32_w]
                rfl
               refine pure_ (i := 13) (N := some 120) (v := ?_) (a' := ?_) #[true, true, true, true, true, true, true, true, true, true, true, true, true, true, false, false, false, false, false, false, false, false, false, false, false, false, false, false, false, false, false, false, false, false, false, false, false, false, false, false, false, false, false, false, false, false, false, false, false, false, false, false, false, false, false, false, false, false, false, false, false, false, false, false, false, false, false, false, false, false, false, false, false, false, false, false] rfl rfl (any_of HT_.out (by kernel_rfl)) (fun _ _ _ h => h) (Or.inl ⟨by rfl, ?_⟩) ?_ ?_
               rotate_left
               ·intro w'
                go_simp
                with_reducible rfl
               rotate_left
               ·simp only [Act.put, List.setIfInBounds_toArray, List.set_cons_zero, List.set_cons_succ, i64_w, i32_w]
                rfl
               refine pure_ (i := 14) (N := some 121) (v := ?_) (a' := ?_) #[true, true, true, true, true, true, true, true, true, true, true, true, true, true, true, false, false, false, false, false, false, false, false, false, false, false, false, false, false, false, false, false, false, false, false, false, false, false, false, false, false, false, false, false, false, false, false, false, false, false, false, false, false, false, false, false, false, false, false, false, false, false, false, false, false, false, false, false, false, false, false, false, false, false, false, false] rfl rfl (any_of HT_.out (by kernel_rfl)) (fun _ _ _ h => h) (Or.inl ⟨by rfl, ?_⟩) ?_ ?_
               rotate_left
               ·intro w'
                go_simp
                with_reducible rfl
               rotate_left
               ·simp only [Act.put, List.setIfInBounds_toArray, List.set_cons_zero, List.set_cons_succ, i64_w, i32_w]
                rfl
               refine pure_ (i := 15) (N := some 122) (v := ?_) (a' := ?_) #[true, true, true, true, true, true, true, true, true, true, true, true, true, true, true, true, false, false, false, false, false, false, false, false, false, false, false, false, false, false, false, false, false, false, false, false, false, false, false, false, false, false, false, false, false, false, false, false, false, false, false, false, false, false, false, false, false, false, false, false, false, false, false, false, false, false, false, false, false, false, false, false, false, false, false, false] rfl rfl (any_of HT_.out (by kernel_rfl)) (fun _ _ _ h => h) (Or.inl ⟨by rfl, ?_⟩) ?_ ?_
               rotate_left
               ·intro w'
                go_simp
                with_reducible rfl
               rotate_left
               ·simp only [Act.put, List.setIfInBounds_toArray, List.set_cons_zero, List.set_cons_succ, i64_w, i32_w]
                rfl
               refine pure_ (i := 17) (N := some 124) (v := ?_) (a' := ?_) #[true, true, true, true, true, true, true, true, true, true, true, true, true, true, true, true, false, true, false, false, false, false, false, false, false, false, false, false, false, false, false, false, false, false, false, false, false, false, false, false, false, false, false, false, false, false, false, false, false, false, false, false, false, false, false, false, false, false, false, false, false, false, false, false, false, false, false, false, false, false, false, false, false, false, false, false] rfl rfl (any_of HT_.out (by kernel_rfl)) (fun _ _ _ h => h) (Or.inl ⟨by rfl, ?_⟩) ?_ ?_
               rotate_left
               ·intro w'
                go_simp
                with_reducible rfl
               rotate_left
               ·simp only [Act.put, List.setIfInBounds_toArray, List.set_cons_zero, List.set_cons_succ, i64_w, i32_w]
                rfl
               refine pure_ (i := 18) (N := some 125) (v := ?_) (a' := ?_) #[true, true, true, true, true, true, true, true, true, true, true, true, true, true, true, true, false, true, true, false, false, false, false, false, false, false, false, false, false, false, false, false, false, false, false, false, false, false, false, false, false, false, false, false, false, false, false, false, false, false, false, false, false, false, false, false, false, false, false, false, false, false, false, false, false, false, false, false, false, false, false, false, false, false, false, false] rfl rfl (any_of HT_.out (by kernel_rfl)) (fun _ _ _ h => h) (Or.inl ⟨by rfl, ?_⟩) ?_ ?_
               rotate_left
               ·intro w'
                go_simp
                with_reducible rfl
               rotate_left
               ·simp only [Act.put, List.setIfInBounds_toArray, List.set_cons_zero, List.set_cons_succ, i64_w, i32_w]
                rfl
               refine pure_ (i := 19) (N := some 126) (v := ?_) (a' := ?_) #[true, true, true, true, true, true, true, true, true, true, true, true, true, true, true, true, false, true, true, true, false, false, false, false, false, false, false, false, false, false, false, false, false, false, false, false, false, false, false, false, false, false, false, false, false, false, false, false, false, false, false, false, false, false, false, false, false, false, false, false, false, false, false, false, false, false, false, false, false, false, false, false, false, false, false, false] rfl rfl (any_of HT_.out (by kernel_rfl)) (fun _ _ _ h => h) (Or.inl ⟨by rfl, ?_⟩) ?_ ?_
               rotate_left
               ·intro w'
                go_simp
                with_reducible rfl
               rotate_left
               ·simp only [Act.put, List.setIfInBounds_toArray, List.set_cons_zero, List.set_cons_succ, i64_w, i32_w]
                rfl
               refine pure_ (i := 20) (N := some 127) (v := ?_) (a' := ?_) #[true, true, true, true, true, true, true, true, true, true, true, true, true, true, true, true, false, true, true, true, true, false, false, false, false, false, false, false, false, false, false, false, false, false, false, false, false, false, false, false, false, false, false, false, false, false, false, false, false, false, false, false, false, false, false, false, false, false, false, false, false, false, false, false, false, false, false, false, false, false, false, false, false, false, false, false] rfl rfl (any_of HT_.out (by kernel_rfl)) (fun _ _ _ h => h) (Or.inl ⟨by rfl, ?_⟩) ?_ ?_
               rotate_left
               ·intro w'
                go_simp
                with_reducible rfl
               rotate_left
               ·simp only [Act.put, List.setIfInBounds_toArray, List.set_cons_zero, List.set_cons_succ, i64_w, i32_w]
                rfl
               refine take_ (i := 16) (N := some 123) (v := ?_) (a' := ?_) #[true, true, true, true, true, true, true, true, true, true, true, true, true, true, true, true, true, true, true, true, true, false, false, false, false, false, false, false, false, false, false, false, false, false, false, false, false, false, false, false, false, false, false, false, false, false, false, false, false, false, false, false, false, false, false, false, false, false, false, false, false, false, false, false, false, false, false, false, false, false, false, false, false, false, false, false] rfl rfl (take_ofW HT_.out HW_.out (by kernel_rfl)) (fun _ _ _ h => h) (Or.inl ⟨by rfl, ?_⟩) hHeld ?_ ?_
               rotate_left
               ·rintro w' ⟨s0, s1, s2, s3, s4, s5, s6, s7, s8, s9, s10, s11, s12, s13, s14, s15, s16, s17, s18, s19, s20, s21, s22, s23, s24, s25, s26, s27, s28, s29, s30, s31, s32, s33, s34, s35, s36, s37, s38, s39, s40, s41, s42, s43, s44, s45, s46, s47, s48, s49, s50, s51, s52, s53, s54, s55, s56, s57, s58, s59, s60, s61, s62, s63, s64, s65, s66, s67, s68, s69, s70, s71, s72, s73, s74, s75, s76, s77, s78, s79, s80, s81, s82, s83⟩
                go_simp
                with_reducible rfl
               rotate_left
               ·simp only [Act.put, List.setIfInBounds_toArray, List.set_cons_zero, List.set_cons_succ, i64_w, i32_w]
                rfl
               refine take_ (i := 21) (N := some 128) (v := ?_) (a' := ?_) #[true, true, true, true, true, true, true, true, true, true, true, true, true, true, true, true, true, true, true, true, true, true, false, false, false, false, false, false, false, false, false, false, false, false, false, false, false, false, false, false, false, false, false, false, false, false, false, false, false, false, false, false, false, false, false, false, false, false, false, false, false, false, false, false, false, false, false, false, false, false, false, false, false, false, false, false] rfl rfl (take_ofW HT_.out HW_.out (by kernel_rfl)) (fun _ _ _ h => h) (Or.inl ⟨by rfl, ?_⟩) hHeld ?_ ?_
               rotate_left
               ·rintro w' ⟨s0, s1, s2, s3, s4, s5, s6, s7, s8, s9, s10, s11, s12, s13, s14, s15, s16, s17, s18, s19, s20, s21, s22, s23, s24, s25, s26, s27, s28, s29, s30, s31, s32, s33, s34, s35, s36, s37, s38, s39, s40, s41, s42, s43, s44, s45, s46, s47, s48, s49, s50, s51, s52, s53, s54, s55, s56, s57, s58, s59, s60, s61, s62, s63, s64, s65, s66, s67, s68, s69, s70, s71, s72, s73, s74, s75, s76, s77, s78, s79, s80, s81, s82, s83⟩
                go_simp
                with_reducible rfl
               rotate_left
               ·simp only [Act.put, List.setIfInBounds_toArray, List.set_cons_zero, List.set_cons_succ, i64_w, i32_w]
                rfl
               refine pure_ (i := 22) (N := some 129) (v := ?_) (a' := ?_) #[true, true, true, true, true, true, true, true, true, true, true, true, true, true, true, true, true, true, true, true, true, true, true, false, false, false, false, false, false, false, false, false, false, false, false, false, false, false, false, false, false, false, false, false, false, false, false, false, false, false, false, false, false, false, false, false, false, false, false, false, false, false, false, false, false, false, false, false, false, false, false, false, false, false, false, false] rfl rfl (any_of HT_.out (by kernel_rfl)) (fun _ _ _ h => h) (Or.inl ⟨by rfl, ?_⟩) ?_ ?_
               rotate_left
               ·intro w'
                go_simp
                with_reducible rfl
               rotate_left
               ·simp only [Act.put, List.setIfInBounds_toArray, List.set_cons_zero, List.set_cons_succ, i64_w, i32_w]
                rfl
               refine pure_ (i := 23) (N := some 130) (v := ?_) (a' := ?_) #[true, true, true, true, true, true, true, true, true, true, true, true, true, true, true, true, true, true, true, true, true, true, true, true, false, false, false, false, false, false, false, false, false, false, false, false, false, false, false, false, false, false, false, false, false, false, false, false, false, false, false, false, false, false, false, false, false, false, false, false, false, false, false, false, false, false, false, false, false, false, false, false, false, false, false, false] rfl rfl (any_of HT_.out (by kernel_rfl)) (fun _ _ _ h => h) (Or.inl ⟨by rfl, ?_⟩) ?_ ?_
               rotate_left
               ·intro w'
                go_simp
                with_reducible rfl
               rotate_left
               ·simp only [Act.put, List.setIfInBounds_toArray, List.set_cons_zero, List.set_cons_succ, i64_w, i32_w]
                rfl
               refine pure_ (i := 24) (N := some 131) (v := ?_) (a' := ?_) #[true, true, true, true, true, true, true, true, true, true, true, true, true, true, true, true, true, true, true, true, true, true, true, true, true, false, false, false, false, false, false, false, false, false, false, false, false, false, false, false, false, false, false, false, false, false, false, false, false, false, false, false, false, false, false, false, false, false, false, false, false, false, false, false, false, false, false, false, false, false, false, false, false, false, false, false] rfl rfl (any_of HT_.out (by kernel_rfl)) (fun _ _ _ h => h) (Or.inl ⟨by rfl, ?_⟩) ?_ ?_
               rotate_left
               ·intro w'
                go_simp
                with_reducible rfl
               rotate_left
               ·simp only [Act.put, List.setIfInBounds_toArray, List.set_cons_zero, List.set_cons_succ, i64_w, i32_w]
                rfl
               refine pure_ (i := 25) (N := some 132) (v := ?_) (a' := ?_) #[true, true, true, true, true, true, true, true, true, true, true, true, true, true, true, true, true, true, true, true, true, true, true, true, true, true, false, false, false, false, false, false, false, false, false, false, false, false, false, false, false, false, false, false, false, false, false, false, false, false, false, false, false, false, false, false, false, false, false, false, false, false, false, false, false, false, false, false, false, false, false, false, false, false, false, false] rfl rfl (any_of HT_.out (by kernel_rfl)) (fun _ _ _ h => h) (Or.inl ⟨by rfl, ?_⟩) ?_ ?_
               rotate_left
               ·intro w'
                go_simp
                with_reducible rfl
               rotate_left
               ·simp only [Act.put, List.setIfInBounds_toArray, List.set_cons_zero, List.set_cons_succ, i64_w, i32_w]
                rfl
               refine pure_ (i := 26) (N := some 133) (v := ?_) (a' := ?_) #[true, true, true, true, true, true, true, true, true, true, true, true, true, true, true, true, true, true, true, true, true, true, true, true, true, true, true, false, false, false, false, false, false, false, false, false, false, false, false, false, false, false, false, false, false, false, false, false, false, false, false, false, false, false, false, false, false, false, false, false, false, false, false, false, false, false, false, false, false, false, false, false, false, false, false, false] rfl rfl (any_of HT_.out (by kernel_rfl)) (fun _ _ _ h => h) (Or.inl ⟨by rfl, ?_⟩) ?_ ?_
               rotate_left
               ·intro w'
                go_simp
                with_reducible rfl
               rotate_left
               ·simp only [Act.put, List.setIfInBounds_toArray, List.set_cons_zero, List.set_cons_succ, i64_w, i32_w]
                rfl
               refine pure_ (i := 27) (N := some 134) (v := ?_) (a' := ?_) #[true, true, true, true, true, true, true, true, true, true, true, true, true, true, true, true, true, true, true, true, true, true, true, true, true, true, true, true, false, false, false, false, false, false, false, false, false, false, false, false, false, false, false, false, false, false, false, false, false, false, false, false, false, false, false, false, false, false, false, false, false, false, false, false, false, false, false, false, false, false, false, false, false, false, false, false] rfl rfl (any_of HT_.out (by kernel_rfl)) (fun _ _ _ h => h) (Or.inl ⟨by rfl, ?_⟩) ?_ ?_
               rotate_left
               ·intro w'
                go_simp
                with_reducible rfl
               rotate_left
               ·simp only [Act.put, List.setIfInBounds_toArray, List.set_cons_zero, List.set_cons_succ, i64_w, i32_w]
                rfl
               refine pure_ (i := 28) (N := some 135) (v := ?_) (a' := ?_) #[true, true, true, true, true, true, true, true, true, true, true, true, true, true, true, true, true, true, true, true, true, true, true, true, true, true, true, true, true, false, false, false, false, false, false, false, false, false, false, false, false, false, false, false, false, false, false, false, false, false, false, false, false, false, false, false, false, false, false, false, false, false, false, false, false, false, false, false, false, false, false, false, false, false, false, false] rfl rfl (any_of HT_.out (by kernel_rfl)) (fun _ _ _ h => h) (Or.inl ⟨by rfl, ?_⟩) ?_ ?_
               rotate_left
               ·intro w'
                go_simp
                with_reducible rfl
               rotate_left
               ·simp only [Act.put, List.setIfInBounds_toArray, List.set_cons_zero, List.set_cons_succ, i64_w, i32_w]
                rfl
               refine pure_ (i := 30) (N := some 137) (v := ?_) (a' := ?_) #[true, true, true, true, true, true, true, true, true, true, true, true, true, true, true, true, true, true, true, true, true, true, true, true, true, true, true, true, true, false, true, false, false, false, false, false, false, false, false, false, false, false, false, false, false, false, false, false, false, false, false, false, false, false, false, false, false, false, false, false, false, false, false, false, false, false, false, false, false, false, false, false, false, false, false, false] rfl rfl (any_of HT_.out (by kernel_rfl)) (fun _ _ _ h => h) (Or.inl ⟨by rfl, ?_⟩) ?_ ?_
               rotate_left
               ·intro w'
                go_simp
                with_reducible rfl
               rotate_left
               ·simp only [Act.put, List.setIfInBounds_toArray, List.set_cons_zero, List.set_cons_succ, i64_w, i32_w]
                rfl
               refine pure_ (i := 31) (N := some 138) (v := ?_) (a' := ?_) #[true, true, true, true, true, true, true, true, true, true, true, true, true, true, true, true, true, true, true, true, true, true, true, true, true, true, true, true, true, false, true, true, false, false, false, false, false, false, false, false, false, false, false, false, false, false, false, false, false, false, false, false, false, false, false, false, false, false, false, false, false, false, false, false, false, false, false, false, false, false, false, false, false, false, false, false] rfl rfl (any_of HT_.out (by kernel_rfl)) (fun _ _ _ h => h) (Or.inl ⟨by rfl, ?_⟩) ?_ ?_
               rotate_left
               ·intro w'
                go_simp
                with_reducible rfl
               rotate_left
               ·simp only [Act.put, List.setIfInBounds_toArray, List.set_cons_zero, List.set_cons_succ, i64_w, i32_w]
                rfl
               refine pure_ (i := 32) (N := some 139) (v := ?_) (a' := ?_) #[true, true, true, true, true, true, true, true, true, true, true, true, true, true, true, true, true, true, true, true, true, true, true, true, true, true, true, true, true, false, true, true, true, false, false, false, false, false, false, false, false, false, false, false, false, false, false, false, false, false, false, false, false, false, false, false, false, false, false, false, false, false, false, false, false, false, false, false, false, false, false, false, false, false, false, false] rfl rfl (any_of HT_.out (by kernel_rfl)) (fun _ _ _ h => h) (Or.inl ⟨by rfl, ?_⟩) ?_ ?_
               rotate_left
               ·intro w'
                go_simp
                with_reducible rfl
               rotate_left
               ·simp only [Act.put, List.setIfInBounds_toArray, List.set_cons_zero, List.set_cons_succ, i64_w, i32_w]
                rfl
               refine pure_ (i := 33) (N := some 140) (v := ?_) (a' := ?_) #[true, true, true, true, true, true, true, true, true, true, true, true, true, true, true, true, true, true, true, true, true, true, true, true, true, true, true, true, true, false, true, true, true, true, false, false, false, false, false, false, false, false, false, false, false, false, false, false, false, false, false, false, false, false, false, false, false, false, false, false, false, false, false, false, false, false, false, false, false, false, false, false, false, false, false, false] rfl rfl (any_of HT_.out (by kernel_rfl)) (fun _ _ _ h => h) (Or.inl ⟨by rfl, ?_⟩) ?_ ?_
               rotate_left
               ·intro w'
                go_simp
                with_reducible rfl
               rotate_left
               ·simp only [Act.put, List.setIfInBounds_toArray, List.set_cons_zero, List.set_cons_succ, i64_w, i32_w]
                rfl
               refine take_ (i := 29) (N := some 136) (v := ?_) (a' := ?_) #[true, true, true, true, true, true, true, true, true, true, true, true, true, true, true, true, true, true, true, true, true, true, true, true, true, true, true, true, true, true, true, true, true, true, false, false, false, false, false, false, false, false, false, false, false, false, false, false, false, false, false, false, false, false, false, false, false, false, false, false, false, false, false, false, false, false, false, false, false, false, false, false, false, false, false, false] rfl rfl (take_ofW HT_.out HW_.out (by kernel_rfl)) (fun _ _ _ h => h) (Or.inl ⟨by rfl, ?_⟩) hHeld ?_ ?_
               rotate_left
               ·rintro w' ⟨s0, s1, s2, s3, s4, s5, s6, s7, s8, s9, s10, s11, s12, s13, s14, s15, s16, s17, s18, s19, s20, s21, s22, s23, s24, s25, s26, s27, s28, s29, s30, s31, s32, s33, s34, s35, s36, s37, s38, s39, s40, s41, s42, s43, s44, s45, s46, s47, s48, s49, s50, s51, s52, s53, s54, s55, s56, s57, s58, s59, s60, s61, s62, s63, s64, s65, s66, s67, s68, s69, s70, s71, s72, s73, s74, s75, s76, s77, s78, s79, s80, s81, s82, s83⟩
                go_simp
                with_reducible rfl
               rotate_left
               ·simp only [Act.put, List.setIfInBounds_toArray, List.set_cons_zero, List.set_cons_succ, i64_w, i32_w]
                rfl
               refine take_ (i := 34) (N := some 141) (v := ?_) (a' := ?_) #[true, true, true, true, true, true, true, true, true, true, true, true, true, true, true, true, true, true, true, true, true, true, true, true, true, true, true, true, true, true, true, true, true, true, true, false, false, false, false, false, false, false, false, false, false, false, false, false, false, false, false, false, false, false, false, false, false, false, false, false, false, false, false, false, false, false, false, false, false, false, false, false, false, false, false, false] rfl rfl (take_ofW HT_.out HW_.out (by kernel_rfl)) (fun _ _ _ h => h) (Or.inl ⟨by rfl, ?_⟩) hHeld ?_ ?_
               rotate_left
               ·rintro w' ⟨s0, s1, s2, s3, s4, s5, s6, s7, s8, s9, s10, s11, s12, s13, s14, s15, s16, s17, s18, s19, s20, s21, s22, s23, s24, s25, s26, s27, s28, s29, s30, s31, s32, s33, s34, s35, s36, s37, s38, s39, s40, s41, s42, s43, s44, s45, s46, s47, s48, s49, s50, s51, s52, s53, s54, s55, s56, s57, s58, s59, s60, s61, s62, s63, s64, s65, s66, s67, s68, s69, s70, s71, s72, s73, s74, s75, s76, s77, s78, s79, s80, s81, s82, s83⟩
                go_simp
                with_reducible rfl
               rotate_left
               ·simp only [Act.put, List.setIfInBounds_toArray, List.set_cons_zero, List.set_cons_succ, i64_w, i32_w]
                rfl
               refine pure_ (i := 35) (N := some 142) (v := ?_) (a' := ?_) #[true, true, true, true, true, true, true, true, true, true, true, true, true, true, true, true, true, true, true, true, true, true, true, true, true, true, true, true, true, true, true, true, true, true, true, true, false, false, false, false, false, false, false, false, false, false, false, false, false, false, false, false, false, false, false, false, false, false, false, false, false, false, false, false, false, false, false, false, false, false, false, false, false, false, false, false] rfl rfl (any_of HT_.out (by kernel_rfl)) (fun _ _ _ h => h) (Or.inl ⟨by rfl, ?_⟩) ?_ ?_
               rotate_left
               ·intro w'
                go_simp
                with_reducible rfl
               rotate_left
               ·simp only [Act.put, List.setIfInBounds_toArray, List.set_cons_zero, List.set_cons_succ, i64_w, i32_w]
                rfl
               refine pure_ (i := 36) (N := some 143) (v := ?_) (a' := ?_) #[true, true, true, true, true, true, true, true, true, true, true, true, true, true, true, true, true, true, true, true, true, true, true, true, true, true, true, true, true, true, true, true, true, true, true, true, true, false, false, false, false, false, false, false, false, false, false, false, false, false, false, false, false, false, false, false, false, false, false, false, false, false, false, false, false, false, false, false, false, false, false, false, false, false, false, false] rfl rfl (any_of HT_.out (by kernel_rfl)) (fun _ _ _ h => h) (Or.inl ⟨by rfl, ?_⟩) ?_ ?_
               rotate_left
               ·intro w'
                go_simp
                with_reducible rfl
               rotate_left
               ·simp only [Act.put, List.setIfInBounds_toArray, List.set_cons_zero, List.set_cons_succ, i64_w, i32_w]
                rfl
               refine pure_ (i := 37) (N := some 144) (v := ?_) (a' := ?_) #[true, true, true, true, true, true, true, true, true, true, true, true, true, true, true, true, true, true, true, true, true, true, true, true, true, true, true, true, true, true, true, true, true, true, true, true, true, true, false, false, false, false, false, false, false, false, false, false, false, false, false, false, false, false, false, false, false, false, false, false, false, false, false, false, false, false, false, false, false, false, false, false, false, false, false, false] rfl rfl (any_of HT_.out (by kernel_rfl)) (fun _ _ _ h => h) (Or.inl ⟨by rfl, ?_⟩) ?_ ?_
               rotate_left
               ·intro w'
                go_simp
                with_reducible rfl
               rotate_left
               ·simp only [Act.put, List.setIfInBounds_toArray, List.set_cons_zero, List.set_cons_succ, i64_w, i32_w]
                rfl
               refine pure_ (i := 38) (N := some 145) (v := ?_) (a' := ?_) #[true, true, true, true, true, true, true, true, true, true, true, true, true, true, true, true, true, true, true, true, true, true, true, true, true, true, true, true, true, true, true, true, true, true, true, true, true, true, true, false, false, false, false, false, false, false, false, false, false, false, false, false, false, false, false, false, false, false, false, false, false, false, false, false, false, false, false, false, false, false, false, false, false, false, false, false] rfl rfl (any_of HT_.out (by kernel_rfl)) (fun _ _ _ h => h) (Or.inl ⟨by rfl, ?_⟩) ?_ ?_
               rotate_left
               ·intro w'
                go_simp
                with_reducible rfl
               rotate_left
               ·simp only [Act.put, List.setIfInBounds_toArray, List.set_cons_zero, List.set_cons_succ, i64_w, i32_w]
                rfl
               refine pure_ (i := 39) (N := some 146) (v := ?_) (a' := ?_) #[true, true, true, true, true, true, true, true, true, true, true, true, true, true, true, true, true, true, true, true, true, true, true, true, true, true, true, true, true, true, true, true, true, true, true, true, true, true, true, true, false, false, false, false, false, false, false, false, false, false, false, false, false, false, false, false, false, false, false, false, false, false, false, false, false, false, false, false, false, false, false, false, false, false, false, false] rfl rfl (any_of HT_.out (by kernel_rfl)) (fun _ _ _ h => h) (Or.inl ⟨by rfl, ?_⟩) ?_ ?_
               rotate_left
               ·intro w'
                go_simp
                with_reducible rfl
               rotate_left
               ·simp only [Act.put, List.setIfInBounds_toArray, List.set_cons_zero, List.set_cons_succ, i64_w, i32_w]
                rfl
               refine pure_ (i := 40) (N := some 147) (v := ?_) (a' := ?_) #[true, true, true, true, true, true, true, true, true, true, true, true, true, true, true, true, true, true, true, true, true, true, true, true, true, true, true, true, true, true, true, true, true, true, true, true, true, true, true, true, true, false, false, false, false, false, false, false, false, false, false, false, false, false, false, false, false, false, false, false, false, false, false, false, false, false, false, false, false, false, false, false, false, false, false, false] rfl rfl (any_of HT_.out (by kernel_rfl)) (fun _ _ _ h => h) (Or.inl ⟨by rfl, ?_⟩) ?_ ?_
               rotate_left
               ·intro w'
                go_simp
                with_reducible rfl
               rotate_left
               ·simp only [Act.put, List.setIfInBounds_toArray, List.set_cons_zero, List.set_cons_succ, i64_w, i32_w]
                rfl
               refine pure_ (i := 41) (N := some 148) (v := ?_) (a' := ?_) #[true, true, true, true, true, true, true, true, true, true, true, true, true, true, true, true, true, true, true, true, true, true, true, true, true, true, true, true, true, true, true, true, true, true, true, true, true, true, true, true, true, true, false, false, false, false, false, false, false, false, false, false, false, false, false, false, false, false, false, false, false, false, false, false, false, false, false, false, false, false, false, false, false, false, false, false] rfl rfl (any_of HT_.out (by kernel_rfl)) (fun _ _ _ h => h) (Or.inl ⟨by rfl, ?_⟩) ?_ ?_
               rotate_left
               ·intro w'
                go_simp
                with_reducible rfl
               rotate_left
               ·simp only [Act.put, List.setIfInBounds_toArray, List.set_cons_zero, List.set_cons_succ, i64_w, i32_w]
                rfl
               refine pure_ (i := 43) (N := some 150) (v := ?_) (a' := ?_) #[true, true, true, true, true, true, true, true, true, true, true, true, true, true, true, true, true, true, true, true, true, true, true, true, true, true, true, true, true, true, true, true, true, true, true, true, true, true, true, true, true, true, false, true, false, false, false, false, false, false, false, false, false, false, false, false, false, false, false, false, false, false, false, false, false, false, false, false, false, false, false, false, false, false, false, false] rfl rfl (any_of HT_.out (by kernel_rfl)) (fun _ _ _ h => h) (Or.inl ⟨by rfl, ?_⟩) ?_ ?_
               rotate_left
               ·intro w'
                go_simp
                with_reducible rfl
               rotate_left
               ·simp only [Act.put, List.setIfInBounds_toArray, List.set_cons_zero, List.set_cons_succ, i64_w, i32_w]
                rfl
               refine pure_ (i := 44) (N := some 151) (v := ?_) (a' := ?_) #[true, true, true, true, true, true, true, true, true, true, true, true, true, true, true, true, true, true, true, true, true, true, true, true, true, true, true, true, true, true, true, true, true, true, true, true, true, true, true, true, true, true, false, true, true, false, false, false, false, false, false, false, false, false, false, false, false, false, false, false, false, false, false, false, false, false, false, false, false, false, false, false, false, false, false, false] rfl rfl (any_of HT_.out (by kernel_rfl)) (fun _ _ _ h => h) (Or.inl ⟨by rfl, ?_⟩) ?_ ?_
               rotate_left
               ·intro w'
                go_simp
                with_reducible rfl
               rotate_left
               ·simp only [Act.put, List.setIfInBounds_toArray, List.set_cons_zero, List.set_cons_succ, i64_w, i32_w]
                rfl
               refine pure_ (i := 45) (N := some 152) (v := ?_) (a' := ?_) #[true, true, true, true, true, true, true, true, true, true, true, true, true, true, true, true, true, true, true, true, true, true, true, true, true, true, true, true, true, true, true, true, true, true, true, true, true, true, true, true, true, true, false, true, true, true, false, false, false, false, false, false, false, false, false, false, false, false, false, false, false, false, false, false, false, false, false, false, false, false, false, false, false, false, false, false] rfl rfl (any_of HT_.out (by kernel_rfl)) (fun _ _ _ h => h) (Or.inl ⟨by rfl, ?_⟩) ?_ ?_
               rotate_left
               ·intro w'
                go_simp
                with_reducible rfl
               rotate_left
               ·simp only [Act.put, List.setIfInBounds_toArray, List.set_cons_zero, List.set_cons_succ, i64_w, i32_w]
                rfl
               refine pure_ (i := 46) (N := some 153) (v := ?_) (a' := ?_) #[true, true, true, true, true, true, true, true, true, true, true, true, true, true, true, true, true, true, true, true, true, true, true, true, true, true, true, true, true, true, true, true, true, true, true, true, true, true, true, true, true, true, false, true, true, true, true, false, false, false, false, false, false, false, false, false, false, false, false, false, false, false, false, false, false, false, false, false, false, false, false, false, false, false, false, false] rfl rfl (any_of HT_.out (by kernel_rfl)) (fun _ _ _ h => h) (Or.inl ⟨by rfl, ?_⟩) ?_ ?_
               rotate_left
               ·intro w'
                go_simp
                with_reducible rfl
               rotate_left
               ·simp only [Act.put, List.setIfInBounds_toArray, List.set_cons_zero, List.set_cons_succ, i64_w, i32_w]
                rfl
               refine take_ (i := 42) (N := some 149) (v := ?_) (a' := ?_) #[true, true, true, true, true, true, true, true, true, true, true, true, true, true, true, true, true, true, true, true, true, true, true, true, true, true, true, true, true, true, true, true, true, true, true, true, true, true, true, true, true, true, true, true, true, true, true, false, false, false, false, false, false, false, false, false, false, false, false, false, false, false, false, false, false, false, false, false, false, false, false, false, false, false, false, false] rfl rfl (take_ofW HT_.out HW_.out (by kernel_rfl)) (fun _ _ _ h => h) (Or.inl ⟨by rfl, ?_⟩) hHeld ?_ ?_
               rotate_left
               ·rintro w' ⟨s0, s1, s2, s3, s4, s5, s6, s7, s8, s9, s10, s11, s12, s13, s14, s15, s16, s17, s18, s19, s20, s21, s22, s23, s24, s25, s26, s27, s28, s29, s30, s31, s32, s33, s34, s35, s36, s37, s38, s39, s40, s41, s42, s43, s44, s45, s46, s47, s48, s49, s50, s51, s52, s53, s54, s55, s56, s57, s58, s59, s60, s61, s62, s63, s64, s65, s66, s67, s68, s69, s70, s71, s72, s73, s74, s75, s76, s77, s78, s79, s80, s81, s82, s83⟩
                go_simp
                with_reducible rfl
               rotate_left
               ·simp only [Act.put, List.setIfInBounds_toArray, List.set_cons_zero, List.set_cons_succ, i64_w, i32_w]
                rfl
               refine take_ (i := 47) (N := some 154) (v := ?_) (a' := ?_) #[true, true, true, true, true, true, true, true, true, true, true, true, true, true, true, true, true, true, true, true, true, true, true, true, true, true, true, true, true, true, true, true, true, true, true, true, true, true, true, true, true, true, true, true, true, true, true, true, false, false, false, false, false, false, false, false, false, false, false, false, false, false, false, false, false, false, false, false, false, false, false, false, false, false, false, false] rfl rfl (take_ofW HT_.out HW_.out (by kernel_rfl)) (fun _ _ _ h => h) (Or.inl ⟨by rfl, ?_⟩) hHeld ?_ ?_
               rotate_left
               ·rintro w' ⟨s0, s1, s2, s3, s4, s5, s6, s7, s8, s9, s10, s11, s12, s13, s14, s15, s16, s17, s18, s19, s20, s21, s22, s23, s24, s25, s26, s27, s28, s29, s30, s31, s32, s33, s34, s35, s36, s37, s38, s39, s40, s41, s42, s43, s44, s45, s46, s47, s48, s49, s50, s51, s52, s53, s54, s55, s56, s57, s58, s59, s60, s61, s62, s63, s64, s65, s66, s67, s68, s69, s70, s71, s72, s73, s74, s75, s76, s77, s78, s79, s80, s81, s82, s83⟩
                go_simp
                with_reducible rfl
               rotate_left
               ·simp only [Act.put, List.setIfInBounds_toArray, List.set_cons_zero, List.set_cons_succ, i64_w, i32_w]
                rfl
               refine pure_ (i := 48) (N := some 155) (v := ?_) (a' := ?_) #[true, true, true, true, true, true, true, true, true, true, true, true, true, true, true, true, true, true, true, true, true, true, true, true, true, true, true, true, true, true, true, true, true, true, true, true, true, true, true, true, true, true, true, true, true, true, true, true, true, false, false, false, false, false, false, false, false, false, false, false, false, false, false, false, false, false, false, false, false, false, false, false, false, false, false, false] rfl rfl (any_of HT_.out (by kernel_rfl)) (fun _ _ _ h => h) (Or.inl ⟨by rfl, ?_⟩) ?_ ?_
               rotate_left
               ·intro w'
                go_simp
                with_reducible rfl
               rotate_left
               ·simp only [Act.put, List.setIfInBounds_toArray, List.set_cons_zero, List.set_cons_succ, i64_w, i32_w]
                rfl
               refine pure_ (i := 49) (N := some 156) (v := ?_) (a' := ?_) #[true, true, true, true, true, true, true, true, true, true, true, true, true, true, true, true, true, true, true, true, true, true, true, true, true, true, true, true, true, true, true, true, true, true, true, true, true, true, true, true, true, true, true, true, true, true, true, true, true, true, false, false, false, false, false, false, false, false, false, false, false, false, false, false, false, false, false, false, false, false, false, false, false, false, false, false] rfl rfl (any_of HT_.out (by kernel_rfl)) (fun _ _ _ h => h) (Or.inl ⟨by rfl, ?_⟩) ?_ ?_
               rotate_left
               ·intro w'
                go_simp
                with_reducible rfl
               rotate_left
               ·simp only [Act.put, List.setIfInBounds_toArray, List.set_cons_zero, List.set_cons_succ, i64_w, i32_w]
                rfl
               refine pure_ (i := 50) (N := some 157) (v := ?_) (a' := ?_) #[true, true, true, true, true, true, true, true, true, true, true, true, true, true, true, true, true, true, true, true, true, true, true, true, true, true, true, true, true, true, true, true, true, true, true, true, true, true, true, true, true, true, true, true, true, true, true, true, true, true, true, false, false, false, false, false, false, false, false, false, false, false, false, false, false, false, false, false, false, false, false, false, false, false, false, false] rfl rfl (any_of HT_.out (by kernel_rfl)) (fun _ _ _ h => h) (Or.inl ⟨by rfl, ?_⟩) ?_ ?_
               rotate_left
               ·intro w'
                go_simp
                with_reducible rfl
               rotate_left
               ·simp only [Act.put, List.setIfInBounds_toArray, List.set_cons_zero, List.set_cons_succ, i64_w, i32_w]
                rfl
               refine pure_ (i := 51) (N := some 158) (v := ?_) (a' := ?_) #[true, true, true, true, true, true, true, true, true, true, true, true, true, true, true, true, true, true, true, true, true, true, true, true, true, true, true, true, true, true, true, true, true, true, true, true, true, true, true, true, true, true, true, true, true, true, true, true, true, true, true, true, false, false, false, false, false, false, false, false, false, false, false, false, false, false, false, false, false, false, false, false, false, false, false, false] rfl rfl (any_of HT_.out (by kernel_rfl)) (fun _ _ _ h => h) (Or.inl ⟨by rfl, ?_⟩) ?_ ?_
               rotate_left
               ·intro w'
                go_simp
                with_reducible rfl
               rotate_left
               ·simp only [Act.put, List.setIfInBounds_toArray, List.set_cons_zero, List.set_cons_succ, i64_w, i32_w]
                rfl
               refine pure_ (i := 52) (N := some 159) (v := ?_) (a' := ?_) #[true, true, true, true, true, true, true, true, true, true, true, true, true, true, true, true, true, true, true, true, true, true, true, true, true, true, true, true, true, true, true, true, true, true, true, true, true, true, true, true, true, true, true, true, true, true, true, true, true, true, true, true, true, false, false, false, false, false, false, false, false, false, false, false, false, false, false, false, false, false, false, false, false, false, false, false] rfl rfl (any_of HT_.out (by kernel_rfl)) (fun _ _ _ h => h) (Or.inl ⟨by rfl, ?_⟩) ?_ ?_
               rotate_left
               ·intro w'
                go_simp
                with_reducible rfl
               rotate_left
               ·simp only [Act.put, List.setIfInBounds_toArray, List.set_cons_zero, List.set_cons_succ, i64_w, i32_w]
                rfl
               refine pure_ (i := 53) (N := some 160) (v := ?_) (a' := ?_) #[true, true, true, true, true, true, true, true, true, true, true, true, true, true, true, true, true, true, true, true, true, true, true, true, true, true, true, true, true, true, true, true, true, true, true, true, true, true, true, true, true, true, true, true, true, true, true, true, true, true, true, true, true, true, false, false, false, false, false, false, false, false, false, false, false, false, false, false, false, false, false, false, false, false, false, false] rfl rfl (any_of HT_.out (by kernel_rfl)) (fun _ _ _ h => h) (Or.inl ⟨by rfl, ?_⟩) ?_ ?_
               rotate_left
               ·intro w'
                go_simp
                with_reducible rfl
               rotate_left
               ·simp only [Act.put, List.setIfInBounds_toArray, List.set_cons_zero, List.set_cons_succ, i64_w, i32_w]
                rfl
               refine pure_ (i := 54) (N := some 161) (v := ?_) (a' := ?_) #[true, true, true, true, true, true, true, true, true, true, true, true, true, true, true, true, true, true, true, true, true, true, true, true, true, true, true, true, true, true, true, true, true, true, true, true, true, true, true, true, true, true, true, true, true, true, true, true, true, true, true, true, true, true, true, false, false, false, false, false, false, false, false, false, false, false, false, false, false, false, false, false, false, false, false, false] rfl rfl (any_of HT_.out (by kernel_rfl)) (fun _ _ _ h => h) (Or.inl ⟨by rfl, ?_⟩) ?_ ?_
               rotate_left
               ·intro w'
                go_simp
                with_reducible rfl
               rotate_left
               ·simp only [Act.put, List.setIfInBounds_toArray, List.set_cons_zero, List.set_cons_succ, i64_w, i32_w]
                rfl
               refine pure_ (i := 56) (N := some 163) (v := ?_) (a' := ?_) #[true, true, true, true, true, true, true, true, true, true, true, true, true, true, true, true, true, true, true, true, true, true, true, true, true, true, true, true, true, true, true, true, true, true, true, true, true, true, true, true, true, true, true, true, true, true, true, true, true, true, true, true, true, true, true, false, true, false, false, false, false, false, false, false, false, false, false, false, false, false, false, false, false, false, false, false] rfl rfl (any_of HT_.out (by kernel_rfl)) (fun _ _ _ h => h) (Or.inl ⟨by rfl, ?_⟩) ?_ ?_
               rotate_left
               ·intro w'
                go_simp
                with_reducible rfl
               rotate_left
               ·simp only [Act.put, List.setIfInBounds_toArray, List.set_cons_zero, List.set_cons_succ, i64_w, i32_w]
                rfl
               refine pure_ (i := 57) (N := some 164) (v := ?_) (a' := ?_) #[true, true, true, true, true, true, true, true, true, true, true, true, true, true, true, true, true, true, true, true, true, true, true, true, true, true, true, true, true, true, true, true, true, true, true, true, true, true, true, true, true, true, true, true, true, true, true, true, true, true, true, true, true, true, true, false, true, true, false, false, false, false, false, false, false, false, false, false, false, false, false, false, false, false, false, false] rfl rfl (any_of HT_.out (by kernel_rfl)) (fun _ _ _ h => h) (Or.inl ⟨by rfl, ?_⟩) ?_ ?_
               rotate_left
               ·intro w'
                go_simp
                with_reducible rfl
               rotate_left
               ·simp only [Act.put, List.setIfInBounds_toArray, List.set_cons_zero, List.set_cons_succ, i64_w, i32_w]
                rfl
               refine pure_ (i := 58) (N := some 165) (v := ?_) (a' := ?_) #[true, true, true, true, true, true, true, true, true, true, true, true, true, true, true, true, true, true, true, true, true, true, true, true, true, true, true, true, true, true, true, true, true, true, true, true, true, true, true, true, true, true, true, true, true, true, true, true, true, true, true, true, true, true, true, false, true, true, true, false, false, false, false, false, false, false, false, false, false, false, false, false, false, false, false, false] rfl rfl (any_of HT_.out (by kernel_rfl)) (fun _ _ _ h => h) (Or.inl ⟨by rfl, ?_⟩) ?_ ?_
               rotate_left
               ·intro w'
                go_simp
                with_reducible rfl
               rotate_left
               ·simp only [Act.put, List.setIfInBounds_toArray, List.set_cons_zero, List.set_cons_succ, i64_w, i32_w]
                rfl
               refine pure_ (i := 59) (N := some 166) (v := ?_) (a' := ?_) #[true, true, true, true, true, true, true, true, true, true, true, true, true, true, true, true, true, true, true, true, true, true, true, true, true, true, true, true, true, true, true, true, true, true, true, true, true, true, true, true, true, true, true, true, true, true, true, true, true, true, true, true, true, true, true, false, true, true, true, true, false, false, false, false, false, false, false, false, false, false, false, false, false, false, false, false] rfl rfl (any_of HT_.out (by kernel_rfl)) (fun _ _ _ h => h) (Or.inl ⟨by rfl, ?_⟩) ?_ ?_
               rotate_left
               ·intro w'
                go_simp
                with_reducible rfl
               rotate_left
               ·simp only [Act.put, List.setIfInBounds_toArray, List.set_cons_zero, List.set_cons_succ, i64_w, i32_w]
                rfl
               refine take_ (i := 55) (N := some 162) (v := ?_) (a' := ?_) #[true, true, true, true, true, true, true, true, true, true, true, true, true, true, true, true, true, true, true, true, true, true, true, true, true, true, true, true, true, true, true, true, true, true, true, true, true, true, true, true, true, true, true, true, true, true, true, true, true, true, true, true, true, true, true, true, true, true, true, true, false, false, false, false, false, false, false, false, false, false, false, false, false, false, false, false] rfl rfl (take_ofW HT_.out HW_.out (by kernel_rfl)) (fun _ _ _ h => h) (Or.inl ⟨by rfl, ?_⟩) hHeld ?_ ?_
               rotate_left
               ·rintro w' ⟨s0, s1, s2, s3, s4, s5, s6, s7, s8, s9, s10, s11, s12, s13, s14, s15, s16, s17, s18, s19, s20, s21, s22, s23, s24, s25, s26, s27, s28, s29, s30, s31, s32, s33, s34, s35, s36, s37, s38, s39, s40, s41, s42, s43, s44, s45, s46, s47, s48, s49, s50, s51, s52, s53, s54, s55, s56, s57, s58, s59, s60, s61, s62, s63, s64, s65, s66, s67, s68, s69, s70, s71, s72, s73, s74, s75, s76, s77, s78, s79, s80, s81, s82, s83⟩
                go_simp
                with_reducible rfl
               rotate_left
               ·simp only [Act.put, List.setIfInBounds_toArray, List.set_cons_zero, List.set_cons_succ, i64_w, i32_w]
                rfl
               refine take_ (i := 60) (N := some 167) (v := ?_) (a' := ?_) #[true, true, true, true, true, true, true, true, true, true, true, true, true, true, true, true, true, true, true, true, true, true, true, true, true, true, true, true, true, true, true, true, true, true, true, true, true, true, true, true, true, true, true, true, true, true, true, true, true, true, true, true, true, true, true, true, true, true, true, true, true, false, false, false, false, false, false, false, false, false, false, false, false, false, false, false] rfl rfl (take_ofW HT_.out HW_.out (by kernel_rfl)) (fun _ _ _ h => h) (Or.inl ⟨by rfl, ?_⟩) hHeld ?_ ?_
               rotate_left
               ·rintro w' ⟨s0, s1, s2, s3, s4, s5, s6, s7, s8, s9, s10, s11, s12, s13, s14, s15, s16, s17, s18, s19, s20, s21, s22, s23, s24, s25, s26, s27, s28, s29, s30, s31, s32, s33, s34, s35, s36, s37, s38, s39, s40, s41, s42, s43, s44, s45, s46, s47, s48, s49, s50, s51, s52, s53, s54, s55, s56, s57, s58, s59, s60, s61, s62, s63, s64, s65, s66, s67, s68, s69, s70, s71, s72, s73, s74, s75, s76, s77, s78, s79, s80, s81, s82, s83⟩
                go_simp
                with_reducible rfl
               rotate_left
               ·simp only [Act.put, List.setIfInBounds_toArray, List.set_cons_zero, List.set_cons_succ, i64_w, i32_w]
                rfl
               refine pure_ (i := 61) (N := some 168) (v := ?_) (a' := ?_) #[true, true, true, true, true, true, true, true, true, true, true, true, true, true, true, true, true, true, true, true, true, true, true, true, true, true, true, true, true, true, true, true, true, true, true, true, true, true, true, true, true, true, true, true, true, true, true, true, true, true, true, true, true, true, true, true, true, true, true, true, true, true, false, false, false, false, false, false, false, false, false, false, false, false, false, false] rfl rfl (any_of HT_.out (by kernel_rfl)) (fun _ _ _ h => h) (Or.inl ⟨by rfl, ?_⟩) ?_ ?_
               rotate_left
               ·intro w'
                go_simp
                with_reducible rfl
               rotate_left
               ·simp only [Act.put, List.setIfInBounds_toArray, List.set_cons_zero, List.set_cons_succ, i64_w, i32_w]
                rfl
               refine pure_ (i := 62) (N := some 169) (v := ?_) (a' := ?_) #[true, true, true, true, true, true, true, true, true, true, true, true, true, true, true, true, true, true, true, true, true, true, true, true, true, true, true, true, true, true, true, true, true, true, true, true, true, true, true, true, true, true, true, true, true, true, true, true, true, true, true, true, true, true, true, true, true, true, true, true, true, true, true, false, false, false, false, false, false, false, false, false, false, false, false, false] rfl rfl (any_of HT_.out (by kernel_rfl)) (fun _ _ _ h => h) (Or.inl ⟨by rfl, ?_⟩) ?_ ?_
               rotate_left
               ·intro w'
                go_simp
                with_reducible rfl
               rotate_left
               ·simp only [Act.put, List.setIfInBounds_toArray, List.set_cons_zero, List.set_cons_succ, i64_w, i32_w]
                rfl
               refine pure_ (i := 63) (N := some 170) (v := ?_) (a' := ?_) #[true, true, true, true, true, true, true, true, true, true, true, true, true, true, true, true, true, true, true, true, true, true, true, true, true, true, true, true, true, true, true, true, true, true, true, true, true, true, true, true, true, true, true, true, true, true, true, true, true, true, true, true, true, true, true, true, true, true, true, true, true, true, true, true, false, false, false, false, false, false, false, false, false, false, false, false] rfl rfl (any_of HT_.out (by kernel_rfl)) (fun _ _ _ h => h) (Or.inl ⟨by rfl, ?_⟩) ?_ ?_
               rotate_left
               ·intro w'
                go_simp
                with_reducible rfl
               rotate_left
               ·simp only [Act.put, List.setIfInBounds_toArray, List.set_cons_zero, List.set_cons_succ, i64_w, i32_w]
                rfl
               refine pure_ (i := 64) (N := some 171) (v := ?_) (a' := ?_) #[true, true, true, true, true, true, true, true, true, true, true, true, true, true, true, true, true, true, true, true, true, true, true, true, true, true, true, true, true, true, true, true, true, true, true, true, true, true, true, true, true, true, true, true, true, true, true, true, true, true, true, true, true, true, true, true, true, true, true, true, true, true, true, true, true, false, false, false, false, false, false, false, false, false, false, false] rfl rfl (any_of HT_.out (by kernel_rfl)) (fun _ _ _ h => h) (Or.inl ⟨by rfl, ?_⟩) ?_ ?_
               rotate_left
               ·intro w'
                go_simp
                with_reducible rfl
               rotate_left
               ·simp only [Act.put, List.setIfInBounds_toArray, List.set_cons_zero, List.set_cons_succ, i64_w, i32_w]
                rfl
               refine pure_ (i := 65) (N := some 172) (v := ?_) (a' := ?_) #[true, true, true, true, true, true, true, true, true, true, true, true, true, true, true, true, true, true, true, true, true, true, true, true, true, true, true, true, true, true, true, true, true, true, true, true, true, true, true, true, true, true, true, true, true, true, true, true, true, true, true, true, true, true, true, true, true, true, true, true, true, true, true, true, true, true, false, false, false, false, false, false, false, false, false, false] rfl rfl (any_of HT_.out (by kernel_rfl)) (fun _ _ _ h => h) (Or.inl ⟨by rfl, ?_⟩) ?_ ?_
               rotate_left
               ·intro w'
                go_simp
                with_reducible rfl
               rotate_left
               ·simp only [Act.put, List.setIfInBounds_toArray, List.set_cons_zero, List.set_cons_succ, i64_w, i32_w]
                rfl
               refine pure_ (i := 66) (N := some 173) (v := ?_) (a' := ?_) #[true, true, true, true, true, true, true, true, true, true, true, true, true, true, true, true, true, true, true, true, true, true, true, true, true, true, true, true, true, true, true, true, true, true, true, true, true, true, true, true, true, true, true, true, true, true, true, true, true, true, true, true, true, true, true, true, true, true, true, true, true, true, true, true, true, true, true, false, false, false, false, false, false, false, false, false] rfl rfl (any_of HT_.out (by kernel_rfl)) (fun _ _ _ h => h) (Or.inl ⟨by rfl, ?_⟩) ?_ ?_
               rotate_left
               ·intro w'
                go_simp
                with_reducible rfl
               rotate_left
               ·simp only [Act.put, List.setIfInBounds_toArray, List.set_cons_zero, List.set_cons_succ, i64_w, i32_w]
                rfl
               refine pure_ (i := 67) (N := some 174) (v := ?_) (a' := ?_) #[true, true, true, true, true, true, true, true, true, true, true, true, true, true, true, true, true, true, true, true, true, true, true, true, true, true, true, true, true, true, true, true, true, true, true, true, true, true, true, true, true, true, true, true, true, true, true, true, true, true, true, true, true, true, true, true, true, true, true, true, true, true, true, true, true, true, true, true, false, false, false, false, false, false, false, false] rfl rfl (any_of HT_.out (by kernel_rfl)) (fun _ _ _ h => h) (Or.inl ⟨by rfl, ?_⟩) ?_ ?_
               rotate_left
               ·intro w'
                go_simp
                with_reducible rfl
               rotate_left
               ·simp only [Act.put, List.setIfInBounds_toArray, List.set_cons_zero, List.set_cons_succ, i64_w, i32_w]
                rfl
               refine pure_ (i := 69) (N := some 176) (v := ?_) (a' := ?_) #[true, true, true, true, true, true, true, true, true, true, true, true, true, true, true, true, true, true, true, true, true, true, true, true, true, true, true, true, true, true, true, true, true, true, true, true, true, true, true, true, true, true, true, true, true, true, true, true, true, true, true, true, true, true, true, true, true, true, true, true, true, true, true, true, true, true, true, true, false, true, false, false, false, false, false, false] rfl rfl (any_of HT_.out (by kernel_rfl)) (fun _ _ _ h => h) (Or.inl ⟨by rfl, ?_⟩) ?_ ?_
               rotate_left
               ·intro w'
                go_simp
                with_reducible rfl
               rotate_left
               ·simp only [Act.put, List.setIfInBounds_toArray, List.set_cons_zero, List.set_cons_succ, i64_w, i32_w]
                rfl
               refine pure_ (i := 70) (N := some 177) (v := ?_) (a' := ?_) #[true, true, true, true, true, true, true, true, true, true, true, true, true, true, true, true, true, true, true, true, true, true, true, true, true, true, true, true, true, true, true, true, true, true, true, true, true, true, true, true, true, true, true, true, true, true, true, true, true, true, true, true, true, true, true, true, true, true, true, true, true, true, true, true, true, true, true, true, false, true, true, false, false, false, false, false] rfl rfl (any_of HT_.out (by kernel_rfl)) (fun _ _ _ h => h) (Or.inl ⟨by rfl, ?_⟩) ?_ ?_
               rotate_left
               ·intro w'
                go_simp
                with_reducible rfl
               rotate_left
               ·simp only [Act.put, List.setIfInBounds_toArray, List.set_cons_zero, List.set_cons_succ, i64_w, i32_w]
                rfl
               refine pure_ (i := 71) (N := some 178) (v := ?_) (a' := ?_) #[true, true, true, true, true, true, true, true, true, true, true, true, true, true, true, true, true, true, true, true, true, true, true, true, true, true, true, true, true, true, true, true, true, true, true, true, true, true, true, true, true, true, true, true, true, true, true, true, true, true, true, true, true, true, true, true, true, true, true, true, true, true, true, true, true, true, true, true, false, true, true, true, false, false, false, false] rfl rfl (any_of HT_.out (by kernel_rfl)) (fun _ _ _ h => h) (Or.inl ⟨by rfl, ?_⟩) ?_ ?_
               rotate_left
               ·intro w'
                go_simp
                with_reducible rfl
               rotate_left
               ·simp only [Act.put, List.setIfInBounds_toArray, List.set_cons_zero, List.set_cons_succ, i64_w, i32_w]
                rfl
               refine pure_ (i := 72) (N := some 179) (v := ?_) (a' := ?_) #[true, true, true, true, true, true, true, true, true, true, true, true, true, true, true, true, true, true, true, true, true, true, true, true, true, true, true, true, true, true, true, true, true, true, true, true, true, true, true, true, true, true, true, true, true, true, true, true, true, true, true, true, true, true, true, true, true, true, true, true, true, true, true, true, true, true, true, true, false, true, true, true, true, false, false, false] rfl rfl (any_of HT_.out (by kernel_rfl)) (fun _ _ _ h => h) (Or.inl ⟨by rfl, ?_⟩) ?_ ?_
               rotate_left
               ·intro w'
                go_simp
                with_reducible rfl
               rotate_left
               ·simp only [Act.put, List.setIfInBounds_toArray, List.set_cons_zero, List.set_cons_succ, i64_w, i32_w]
                rfl
               refine take_ (i := 68) (N := some 175) (v := ?_) (a' := ?_) #[true, true, true, true, true, true, true, true, true, true, true, true, true, true, true, true, true, true, true, true, true, true, true, true, true, true, true, true, true, true, true, true, true, true, true, true, true, true, true, true, true, true, true, true, true, true, true, true, true, true, true, true, true, true, true, true, true, true, true, true, true, true, true, true, true, true, true, true, true, true, true, true, true, false, false, false] rfl rfl (take_ofW HT_.out HW_.out (by kernel_rfl)) (fun _ _ _ h => h) (Or.inl ⟨by rfl, ?_⟩) hHeld ?_ ?_
               rotate_left
               ·rintro w' ⟨s0, s1, s2, s3, s4, s5, s6, s7, s8, s9, s10, s11, s12, s13, s14, s15, s16, s17, s18, s19, s20, s21, s22, s23, s24, s25, s26, s27, s28, s29, s30, s31, s32, s33, s34, s35, s36, s37, s38, s39, s40, s41, s42, s43, s44, s45, s46, s47, s48, s49, s50, s51, s52, s53, s54, s55, s56, s57, s58, s59, s60, s61, s62, s63, s64, s65, s66, s67, s68, s69, s70, s71, s72, s73, s74, s75, s76, s77, s78, s79, s80, s81, s82, s83⟩
                go_simp
                with_reducible rfl
               rotate_left
               ·simp only [Act.put, List.setIfInBounds_toArray, List.set_cons_zero, List.set_cons_succ, i64_w, i32_w]
                rfl
               refine take_ (i := 73) (N := some 180) (v := ?_) (a' := ?_) #[true, true, true, true, true, true, true, true, true, true, true, true, true, true, true, true, true, true, true, true, true, true, true, true, true, true, true, true, true, true, true, true, true, true, true, true, true, true, true, true, true, true, true, true, true, true, true, true, true, true, true, true, true, true, true, true, true, true, true, true, true, true, true, true, true, true, true, true, true, true, true, true, true, true, false, false] rfl rfl (take_ofW HT_.out HW_.out (by kernel_rfl)) (fun _ _ _ h => h) (Or.inl ⟨by rfl, ?_⟩) hHeld ?_ ?_
               rotate_left
               ·rintro w' ⟨s0, s1, s2, s3, s4, s5, s6, s7, s8, s9, s10, s11, s12, s13, s14, s15, s16, s17, s18, s19, s20, s21, s22, s23, s24, s25, s26, s27, s28, s29, s30, s31, s32, s33, s34, s35, s36, s37, s38, s39, s40, s41, s42, s43, s44, s45, s46, s47, s48, s49, s50, s51, s52, s53, s54, s55, s56, s57, s58, s59, s60, s61, s62, s63, s64, s65, s66, s67, s68, s69, s70, s71, s72, s73, s74, s75, s76, s77, s78, s79, s80, s81, s82, s83⟩
                go_simp
                with_reducible rfl
               rotate_left
               ·simp only [Act.put, List.setIfInBounds_toArray, List.set_cons_zero, List.set_cons_succ, i64_w, i32_w]
                rfl
               refine pure_ (i := 74) (N := some 181) (v := ?_) (a' := ?_) #[true, true, true, true, true, true, true, true, true, true, true, true, true, true, true, true, true, true, true, true, true, true, true, true, true, true, true, true, true, true, true, true, true, true, true, true, true, true, true, true, true, true, true, true, true, true, true, true, true, true, true, true, true, true, true, true, true, true, true, true, true, true, true, true, true, true, true, true, true, true, true, true, true, true, true, false] rfl rfl (any_of HT_.out (by kernel_rfl)) (fun _ _ _ h => h) (Or.inl ⟨by rfl, ?_⟩) ?_ ?_
               rotate_left
               ·intro w'
                go_simp
                with_reducible rfl
               rotate_left
               ·simp only [Act.put, List.setIfInBounds_toArray, List.set_cons_zero, List.set_cons_succ, i64_w, i32_w]
                rfl
               refine pure_ (i := 75) (N := some 182) (v := ?_) (a' := ?_) #[true, true, true, true, true, true, true, true, true, true, true, true, true, true, true, true, true, true, true, true, true, true, true, true, true, true, true, true, true, true, true, true, true, true, true, true, true, true, true, true, true, true, true, true, true, true, true, true, true, true, true, true, true, true, true, true, true, true, true, true, true, true, true, true, true, true, true, true, true, true, true, true, true, true, true, true] rfl rfl (any_of HT_.out (by kernel_rfl)) (fun _ _ _ h => h) (Or.inl ⟨by rfl, ?_⟩) ?_ ?_
               rotate_left
               ·intro w'
                go_simp
                with_reducible rfl
               rotate_left
               ·simp only [Act.put, List.setIfInBounds_toArray, List.set_cons_zero, List.set_cons_succ, i64_w, i32_w]
                rfl
               refine done_ (done_of HT_.out (by kernel_rfl)) ?_
               try go_wp2
               go_roundg k7
               case measure => have := HJ4.out; have := HK2.out; have := HJ19.out; have := HJ24.out; have := HK5.out; have := HJ53.out; have := HK7.out; omega
               case rel => exact ⟨(wrap64 (x104_7 + 1)), (by first | rfl | (simp; done) | (simp [*]; done)), H', ⟨by have := HJ4.out; have := HK2.out; have := HJ19.out; have := HJ24.out; have := HK5.out; have := HJ53.out; have := HK7.out; omega⟩, ⟨by (with_reducible repeat (first | apply Kd.R_alloc | apply Kd.R_drewN | apply Kd.R_drew)); exact HO_15.out⟩, ⟨by (with_reducible repeat (first | apply Kd.R_alloc | apply Kd.R_drewN | apply Kd.R_drew)); exact HO_16.out⟩, ⟨by repeat (first | (with_reducible first | exact HB.out | apply below_alloc | apply pw_below_drewN | apply below_drew1) | exact HB.out)⟩⟩


end Go.Proofs.YtblmbbllfiigmaaDoor.PAll
