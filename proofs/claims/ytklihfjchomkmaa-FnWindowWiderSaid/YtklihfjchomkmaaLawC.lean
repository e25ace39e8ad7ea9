/-
  FnWindowWider, walked: what is fresh in a window is fresh in a wider one.
-/
import Derived.Test.YtklihfjchomkmaaLawA
namespace Go.Proofs.Ytklihfjchomkmaa
open Go.RowKit Go.Proofs.YtklihfjchomkmaaW.PrintWords Go.Proofs.YtklihfjchomkmaaW.PrintLast Go.Proofs.YtklihfjchomkmaaW.PrintMore PFnWindow

/-- where the first list says yes the second does -/
def Imp (a b : List Bool) : Prop := a.length = b.length ∧ ∀ i : Nat, a[i]? = some true → b[i]? = some true
theorem Imp.nil : Imp [] [] := ⟨rfl, fun i h => by simp at h⟩
theorem Imp.cons {x y : Bool} {a b : List Bool} (h : x = true → y = true) (k : Imp a b) : Imp (x :: a) (y :: b) := by
  refine ⟨by simp [k.1], fun i hi => ?_⟩
  cases i with
  | zero => simp at hi ⊢; exact h hi
  | succ i => simp at hi ⊢; exact k.2 i hi

theorem tell_wider (most win wider : Int) (h1 : 1 ≤ win) (h2 : win ≤ wider) : ∀ (ps : List (Int × Bool)) (g : Int) (t1 t2 : Int → Bool), (∀ x, t1 x = true → t2 x = true) → (∀ x, t2 x = true → t1 x = true ∨ x ≤ g - win) →
    Imp (tellA most win g t1 ps) (tellA most wider g t2 ps) := by
  intro ps
  induction ps with
  | nil => intro g t1 t2 _ _; exact Imp.nil
  | cons p ps ih =>
    intro g t1 t2 ha hb
    obtain ⟨n, acc⟩ := p
    rw [tellA_cons, tellA_cons]
    cases f1 : freshA most win g t1 n
    · cases f2 : freshA most wider g t2 n
      · exact Imp.cons (fun h => h) (ih g t1 t2 ha hb)
      · simp only [freshA, Bool.and_eq_true, Bool.or_eq_true, decide_eq_true_eq, Bool.not_eq_true'] at f2
        obtain ⟨⟨e1, e2⟩, e3⟩ := f2
        have e4 : t1 n = false := by
          cases e : t1 n
          · rfl
          · rw [ha n e] at e3; cases e3
        have e5 : n ≤ g - win := by
          simp only [freshA, e4, Bool.not_false, Bool.and_true, Bool.and_eq_false_iff, Bool.or_eq_false_iff, decide_eq_false_iff_not] at f1
          omega
        have em : max g n = g := by omega
        rw [if_neg (by decide), if_pos rfl]
        cases acc
        · rw [if_neg (by decide)]
          exact Imp.cons (fun h => by cases h) (ih g t1 t2 ha hb)
        · rw [if_pos rfl, em]
          refine Imp.cons (fun h => by cases h) (ih g t1 _ (fun x hx => by simp [ha x hx]) (fun x hx => ?_))
          simp only [Bool.or_eq_true, beq_iff_eq] at hx
          rcases hx with rfl | hx
          · exact .inr e5
          · exact hb x hx
    · have f1' := f1
      simp only [freshA, Bool.and_eq_true, Bool.or_eq_true, decide_eq_true_eq, Bool.not_eq_true'] at f1'
      obtain ⟨⟨e1, e2⟩, e3⟩ := f1'
      have e4 : t2 n = false := by
        cases e : t2 n
        · rfl
        · rcases hb n e with h | h
          · rw [h] at e3; cases e3
          · omega
      have f2 : freshA most wider g t2 n = true := by
        simp only [freshA, e4, Bool.not_false, Bool.and_true, Bool.and_eq_true, Bool.or_eq_true, decide_eq_true_eq]
        omega
      rw [f2, if_pos rfl, if_pos rfl]
      cases acc
      · rw [if_neg (by decide), if_neg (by decide)]
        exact Imp.cons (fun h => h) (ih g t1 t2 ha hb)
      · rw [if_pos rfl, if_pos rfl]
        refine Imp.cons (fun h => h) (ih (max g n) _ _ (fun x hx => ?_) (fun x hx => ?_))
        · simp only [Bool.or_eq_true, beq_iff_eq] at hx ⊢
          rcases hx with rfl | hx
          · exact .inl rfl
          · exact .inr (ha x hx)
        · simp only [Bool.or_eq_true, beq_iff_eq] at hx ⊢
          rcases hx with rfl | hx
          · exact .inl (.inl rfl)
          · rcases hb x hx with h | h
            · exact .inl (.inr h)
            · exact .inr (by omega)

theorem at_imp {a b : List Bool} (h : Imp a b) (k : Nat) (hk : k < a.length) : rdOf false a k = false ∨ rdOf false b k = true := by
  have e1 : rdOf false a k = a[k] := by rw [rdOf, Int.toNat_natCast, List.getD_eq_getElem?_getD, List.getElem?_eq_getElem hk]; rfl
  cases e : a[k]
  · left; rw [e1, e]
  · right
    have h2 := h.2 k (by rw [List.getElem?_eq_getElem hk, e])
    rw [rdOf, Int.toNat_natCast, List.getD_eq_getElem?_getD, h2]; rfl

set_option maxRecDepth 100000 in
set_option maxHeartbeats 2000000 in
theorem wider_law (win wider : Int) (A2 A3 : Option Addr) (c2 c3 : Nat) (l2 : List Int) (l3 : List Bool) (w : World) (hU : U64L l2)
    (hr2 : Kd.C (Kd.int .u64) w A2 l2.length l2) (hc2 : l2.length ≤ c2) (hr3 : Kd.C Kd.bool w A3 l3.length l3) (hc3 : l3.length ≤ c3) :
    Calls Try.prog 7 #[.int .i64 win, .int .i64 wider, .slice A2 l2.length c2, .slice A3 l3.length c3] w fun e w' => e = .returned (.bool true) ∧ Below w.heap.size w w' := by
  have HR2 := Aside0.mk hr2
  have HR3 := Aside0.mk hr3
  have HU := Aside0.mk hU
  have HC2 := Aside0.mk hc2
  have HC3 := Aside0.mk hc3
  clear hr2 hr3 hU hc2 hc3
  obtain ⟨r, hr⟩ := windowed_some win 281474976710655 l2 l3
  have HW := Aside0.mk hr
  clear hr
  obtain ⟨r2, hr2⟩ := windowed_some wider 281474976710655 l2 l3
  have HW2 := Aside0.mk hr2
  clear hr2
  by_cases g1 : (2147483647 : Int) < l2.length
  · go_enter Try.func7, Try.ntmps7
    go_wp2
    go_ret
    exact ⟨rfl, Below.refl _ _⟩
  by_cases g2 : (2147483647 : Int) < l3.length
  · go_enter Try.func7, Try.ntmps7
    go_wp2
    go_ret
    exact ⟨rfl, Below.refl _ _⟩
  cases r
  · go_enter Try.func7, Try.ntmps7
    go_wp2_with fail
    refine (laws_windowed.calls win 281474976710655 A2 c2 l2 A3 c3 l3 false _ HR2.out HC2.out HR3.out HC3.out HW.out).mono ?_
    rintro e w1 ⟨rfl, hd⟩
    have HD := Aside0.mk hd.below
    clear hd
    go_wp2
    go_ret
    exact ⟨rfl, HD.out⟩
  cases r2
  · go_enter Try.func7, Try.ntmps7
    go_wp2_with fail
    refine (laws_windowed.calls win 281474976710655 A2 c2 l2 A3 c3 l3 true _ HR2.out HC2.out HR3.out HC3.out HW.out).mono ?_
    rintro e w1 ⟨rfl, hd⟩
    have HD := Aside0.mk hd.below
    clear hd
    go_wp2_with fail
    refine (laws_windowed.calls wider 281474976710655 A2 c2 l2 A3 c3 l3 false w1 (Kd.C_below HR2.out HD.out) HC2.out (Kd.C_below HR3.out HD.out) HC3.out HW2.out).mono ?_
    rintro e w2 ⟨rfl, hd⟩
    have HD2 := Aside0.mk (below_then HD.out HD.out.size hd.below)
    clear hd
    go_wp2
    go_ret
    exact ⟨rfl, HD2.out⟩
  obtain ⟨b1, b2, b3, b4, b5, b6, b7⟩ := windowed_true HW.out
  obtain ⟨d1, d2, d3, d4, d5, d6, d7⟩ := windowed_true HW2.out
  have HL := Aside0.mk b6
  have HB3 := Aside0.mk b3
  have HB4 := Aside0.mk d3
  clear b6 b3 d3 d6 d7
  by_cases g3 : wider < win
  · go_enter Try.func7, Try.ntmps7
    go_wp2_with fail
    refine (laws_windowed.calls win 281474976710655 A2 c2 l2 A3 c3 l3 true _ HR2.out HC2.out HR3.out HC3.out HW.out).mono ?_
    rintro e w1 ⟨rfl, hd⟩
    have HD := Aside0.mk hd.below
    clear hd
    go_wp2_with fail
    refine (laws_windowed.calls wider 281474976710655 A2 c2 l2 A3 c3 l3 true w1 (Kd.C_below HR2.out HD.out) HC2.out (Kd.C_below HR3.out HD.out) HC3.out HW2.out).mono ?_
    rintro e w2 ⟨rfl, hd⟩
    have HD2 := Aside0.mk (below_then HD.out HD.out.size hd.below)
    clear hd
    go_wp2
    go_ret
    exact ⟨rfl, HD2.out⟩
  have hpos : ∀ p ∈ l2.zip l3, 0 ≤ p.1 := fun p hp => by
    have h := List.of_mem_zip (a := p.1) (b := p.2) hp
    exact (HU.out _ h.1).1
  have himp : Aside0 (Imp (runD 281474976710655 win (l2.zip l3)).out (runD 281474976710655 wider (l2.zip l3)).out) := ⟨by
    rw [runD_tell _ win b1 HB3.out _ hpos, runD_tell _ wider d1 HB4.out _ hpos]
    exact tell_wider _ win wider b1 (by omega) _ _ _ _ (fun x hx => hx) (fun x hx => by cases hx)⟩
  clear hpos
  have elen : Aside0 ((runD 281474976710655 win (l2.zip l3)).out.length = l2.length) := ⟨by rw [runD_len, List.length_zip]; have := HL.out; omega⟩
  have elen2 : Aside0 ((runD 281474976710655 wider (l2.zip l3)).out.length = l2.length) := ⟨by rw [runD_len, List.length_zip]; have := HL.out; omega⟩
  obtain ⟨ta, hta⟩ : ∃ ta, ta = (runD 281474976710655 win (l2.zip l3)).out := ⟨_, rfl⟩
  obtain ⟨tw, htw⟩ : ∃ tw, tw = (runD 281474976710655 wider (l2.zip l3)).out := ⟨_, rfl⟩
  have HTA := Aside0.mk hta
  have HTW := Aside0.mk htw
  rw [← hta] at elen himp
  rw [← htw] at elen2 himp
  clear hta htw
  go_enter Try.func7, Try.ntmps7
  go_wp2_with fail
  refine (laws_windowed.calls win 281474976710655 A2 c2 l2 A3 c3 l3 true _ HR2.out HC2.out HR3.out HC3.out HW.out).mono ?_
  rintro e w1 ⟨rfl, hd⟩
  have HD := Aside0.mk hd.below
  clear hd
  go_wp2_with fail
  refine (laws_windowed.calls wider 281474976710655 A2 c2 l2 A3 c3 l3 true w1 (Kd.C_below HR2.out HD.out) HC2.out (Kd.C_below HR3.out HD.out) HC3.out HW2.out).mono ?_
  rintro e w2 ⟨rfl, hd⟩
  have HD2 := Aside0.mk (below_then HD.out HD.out.size hd.below)
  clear hd
  go_wp2_with fail
  refine (replay_any win 281474976710655 A2 A3 c2 c3 l2 l3 w2 b1 b2 HB3.out b4 b5 HL.out b7 HU.out (Kd.C_below HR2.out HD2.out) (Kd.C_below HR3.out HD2.out)).mono ?_
  rintro e w3 ⟨v10, rfl, ho, hb⟩
  have HB2 := Aside0.mk (below_then HD2.out HD2.out.size hb)
  have HO10 := Aside0.mk (show Kd.bool.R 4 w3 w2.heap.size (fun _ => True) v10 ta by rw [HTA.out]; exact ho)
  clear ho hb
  go_wp2_with fail
  refine (replay_any wider 281474976710655 A2 A3 c2 c3 l2 l3 w3 d1 d2 HB4.out d4 d5 HL.out b7 HU.out (Kd.C_below HR2.out HB2.out) (Kd.C_below HR3.out HB2.out)).mono ?_
  rintro e w4 ⟨v11, rfl, ho, hb⟩
  have HB := Aside0.mk (below_then HB2.out HB2.out.size hb)
  have HO11 := Aside0.mk (show Kd.bool.R 4 w4 w3.heap.size (fun _ => True) v11 tw by rw [HTW.out]; exact ho)
  have HO9b := Aside0.mk (Kd.R_below HO10.out hb)
  clear ho hb HO10
  obtain ⟨A9, c9, e9⟩ := Kd.R_slice HO9b.out
  subst e9
  obtain ⟨A10, c10, e10⟩ := Kd.R_slice HO11.out
  subst e10
  have HR9 := Aside0.mk (Kd.R_reads' HO9b.out).2.2
  have HR10 := Aside0.mk (Kd.R_reads' HO11.out).2.2
  have b8 : ta.length ≤ 300 := by rw [elen.out]; exact b7
  have l9 : ((ta.length : Int) != (l2.length : Int)) = false := by rw [elen.out]; simp
  have l10 : ((tw.length : Int) != (l2.length : Int)) = false := by rw [elen2.out]; simp
  have b9 : ta.length ≤ tw.length := by rw [elen.out, elen2.out]; exact Nat.le_refl _
  go_wp2
  go_loop [64] (fun i => ∃ k : Nat, k ≤ ta.length ∧ i = .int .i64 k) (fun i => ta.length - (intOf i).toNat)
  case atStart => exact ⟨0, Nat.zero_le _, rfl⟩
  case round =>
    obtain ⟨k, hk, rfl⟩ := hrel
    by_cases hlt : k < ta.length
    · have p1 : (0 : Int) ≤ (k : Int) := by omega
      have p2 : (k : Int) < (ta.length : Int) := by omega
      have p3 : (k : Int) < (tw.length : Int) := by omega
      obtain ⟨ad9, e9, hx9⟩ := Kd.at_bool HR9.out k p1 p2
      cases e9
      obtain ⟨ad10, e10, hx10⟩ := Kd.at_bool HR10.out k p1 p3
      cases e10
      rw [Int.toNat_natCast] at hx9 hx10
      rcases at_imp himp.out k hlt with h | h
      · rw [h] at hx9
        clear h
        go_wp2
        go_round
        case rel => exact ⟨k + 1, by omega, by go_num⟩
        case measure => simp [intOf]; omega
      · rw [h] at hx10
        clear h
        cases h9 : rdOf false ta k
        · rw [h9] at hx9
          clear h9
          go_wp2
          go_round
          case rel => exact ⟨k + 1, by omega, by go_num⟩
          case measure => simp [intOf]; omega
        · rw [h9] at hx9
          clear h9
          go_wp2
          go_round
          case rel => exact ⟨k + 1, by omega, by go_num⟩
          case measure => simp [intOf]; omega
    · go_wp2
      go_ret
      exact ⟨rfl, HB.out⟩

end Go.Proofs.Ytklihfjchomkmaa

namespace Go.Proofs.Ytklihfjchomkmaa
open Go.RowKit Go.Proofs.YtklihfjchomkmaaW.PrintWords
theorem wider_row (win wider : Int) (A2 : Option Addr) (c2 : Nat) (l2 : List Int) (A3 : Option Addr) (c3 : Nat) (l3 : List Bool) (w : World) (_ : (Lit.int .i64 win).wf = true) (_ : (Lit.int .i64 wider).wf = true)
    (_ : l2.length ≤ 9223372036854775807) (hr2 : Kd.C (Kd.int .u64) w A2 l2.length l2) (hc2 : l2.length ≤ c2) (hw : ∀ x ∈ l2, (Lit.int .u64 x).wf = true) (_ : l3.length ≤ 9223372036854775807) (hr3 : Kd.C Kd.bool w A3 l3.length l3) (hc3 : l3.length ≤ c3) :
    Calls Try.prog 7 #[.int .i64 win, .int .i64 wider, .slice A2 l2.length c2, .slice A3 l3.length c3] w fun e w' => e = .returned (.bool true) ∧ Below w.heap.size w w' := by
  refine wider_law win wider A2 A3 c2 c3 l2 l3 w (fun x hx => ?_) hr2 hc2 hr3 hc3
  have h2 : 0 ≤ x ∧ x ≤ 18446744073709551615 := by simpa [Lit.wf, IntKind.min, IntKind.max, IntKind.signed, IntKind.bits] using hw x hx
  exact ⟨h2.1, by omega⟩
end Go.Proofs.Ytklihfjchomkmaa
