/-
  FnWindow, walked: whatever the list of numbers, the law ends with true.
-/
import Derived.Test.YtklihfjchomkmaaSpec
namespace Go.Proofs.Ytklihfjchomkmaa
open Go.RowKit Go.Proofs.YtklihfjchomkmaaW.PrintWords Go.Proofs.YtklihfjchomkmaaW.PrintLast Go.Proofs.YtklihfjchomkmaaW.PrintMore PFnWindow

theorem windowed_true {win most : Int} {l2 : List Int} {l3 : List Bool} (h : laws_windowed.f win most l2 l3 = some true) : 1 ≤ win ∧ win ≤ 500 ∧ win % 64 ≤ 32 ∧ win ≤ most ∧ most < 281474976710656 ∧ l2.length = l3.length ∧ l2.length ≤ 300 := by
  unfold laws_windowed.f at h
  by_cases h1 : win ≥ 1
  · rw [if_pos h1] at h
    by_cases h2 : win ≤ 500
    · rw [if_pos h2] at h
      by_cases h3 : win.tmod 64 ≤ 32
      · rw [if_pos h3] at h
        by_cases h4 : most ≥ IntKind.u64.wrap win
        · rw [if_pos h4] at h
          by_cases h5 : most < 281474976710656
          · rw [if_pos h5] at h
            by_cases h6 : (l2.length : Int) = (l3.length : Int)
            · rw [if_pos h6] at h
              simp only [Option.some.injEq, decide_eq_true_eq] at h
              rw [Int.tmod_eq_emod_of_nonneg (by omega)] at h3
              rw [wrap_id (x := win) ⟨by omega, by omega⟩] at h4
              exact ⟨h1, h2, h3, h4, h5, by omega, by omega⟩
            · rw [if_neg h6] at h; simp at h
          · rw [if_neg h5] at h; simp at h
        · rw [if_neg h4] at h; simp at h
      · rw [if_neg h3] at h; simp at h
    · rw [if_neg h2] at h; simp at h
  · rw [if_neg h1] at h; simp at h

theorem windowed_some (win most : Int) (l2 : List Int) (l3 : List Bool) : ∃ r, laws_windowed.f win most l2 l3 = some r := by
  unfold laws_windowed.f
  repeat' split
  all_goals exact ⟨_, rfl⟩

set_option maxRecDepth 100000 in
set_option maxHeartbeats 1000000 in
theorem window_law (win most : Int) (A2 A3 : Option Addr) (c2 c3 : Nat) (l2 : List Int) (l3 : List Bool) (w : World) (hU : U64L l2)
    (hr2 : Kd.C (Kd.int .u64) w A2 l2.length l2) (hc2 : l2.length ≤ c2) (hr3 : Kd.C Kd.bool w A3 l3.length l3) (hc3 : l3.length ≤ c3) :
    Calls Try.prog 4 #[.int .i64 win, .int .u64 most, .slice A2 l2.length c2, .slice A3 l3.length c3] w fun e w' => e = .returned (.bool true) ∧ Below w.heap.size w w' := by
  have HR2 := Aside0.mk hr2
  have HR3 := Aside0.mk hr3
  have HU := Aside0.mk hU
  have HC2 := Aside0.mk hc2
  have HC3 := Aside0.mk hc3
  clear hr2 hr3 hU hc2 hc3
  obtain ⟨r, hr⟩ := windowed_some win most l2 l3
  have HW := Aside0.mk hr
  clear hr
  by_cases g1 : (2147483647 : Int) < l2.length
  · go_enter Try.func4, Try.ntmps4
    go_wp2
    go_ret
    exact ⟨rfl, Below.refl _ _⟩
  by_cases g2 : (2147483647 : Int) < l3.length
  · go_enter Try.func4, Try.ntmps4
    go_wp2
    go_ret
    exact ⟨rfl, Below.refl _ _⟩
  cases r
  · go_enter Try.func4, Try.ntmps4
    go_wp2_with fail
    refine (laws_windowed.calls win most A2 c2 l2 A3 c3 l3 false _ HR2.out HC2.out HR3.out HC3.out HW.out).mono ?_
    rintro e w1 ⟨rfl, hd⟩
    have HD := Aside0.mk hd.below
    clear hd
    go_wp2
    go_ret
    exact ⟨rfl, HD.out⟩
  · obtain ⟨b1, b2, b3, b4, b5, b6, b7⟩ := windowed_true HW.out
    have HL := Aside0.mk b6
    have HB3 := Aside0.mk b3
    clear b6 b3
    have e1 : Aside0 ((runD most win (l2.zip l3)).out = tellA most win 0 (fun _ => false) (l2.zip l3)) := ⟨runD_tell most win b1 HB3.out _ (fun p hp => by
      have h := List.of_mem_zip (a := p.1) (b := p.2) hp
      exact (HU.out _ h.1).1)⟩
    have elen : Aside0 ((tellA most win 0 (fun _ => false) (l2.zip l3)).length = l2.length) := ⟨by rw [← e1.out, runD_len, List.length_zip]; have := HL.out; omega⟩
    have hsp := Aside0.mk (spec_f win most (by omega) b2 l2 l3 HL.out b7 HU.out)
    generalize tellA most win 0 (fun _ => false) (l2.zip l3) = told at *
    go_enter Try.func4, Try.ntmps4
    go_wp2_with fail
    refine (laws_windowed.calls win most A2 c2 l2 A3 c3 l3 true _ HR2.out HC2.out HR3.out HC3.out HW.out).mono ?_
    rintro e w1 ⟨rfl, hd⟩
    have HD := Aside0.mk hd.below
    clear hd
    go_wp2_with fail
    refine (replay_any win most A2 A3 c2 c3 l2 l3 w1 b1 b2 HB3.out b4 b5 HL.out b7 HU.out (Kd.C_below HR2.out HD.out) (Kd.C_below HR3.out HD.out)).mono ?_
    rintro e w2 ⟨v9, rfl, ho, hb⟩
    have HB2 := Aside0.mk (below_then HD.out HD.out.size hb)
    have HO9 := Aside0.mk (show Kd.bool.R 4 w2 w1.heap.size (fun _ => True) v9 told by rw [← e1.out]; exact ho)
    clear ho hb
    go_wp2_with fail
    refine (spec_Replay.calls 1000 win most A2 c2 l2 A3 c3 l3 told w2 (Kd.C_below HR2.out HB2.out) HC2.out (Kd.C_below HR3.out HB2.out) HC3.out hsp.out).mono ?_
    rintro e w3 ⟨v10, rfl, ho, hb⟩
    have HB := Aside0.mk (below_then HB2.out HB2.out.size hb)
    have HO10 := Aside0.mk ho
    have HO9b := Aside0.mk (Kd.R_below HO9.out hb)
    clear ho hb HO9
    obtain ⟨A9, c9, e9⟩ := Kd.R_slice HO9b.out
    subst e9
    obtain ⟨A10, c10, e10⟩ := Kd.R_slice HO10.out
    subst e10
    have HR9 := Aside0.mk (Kd.R_reads' HO9b.out).2.2
    have HR10 := Aside0.mk (Kd.R_reads' HO10.out).2.2
    have b8 : told.length ≤ 300 := by rw [elen.out]; exact b7
    have l9 : ((told.length : Int) != (l2.length : Int)) = false := by rw [elen.out]; simp
    go_wp2
    go_loopw [50] (fun i wr => ∃ k : Nat, k ≤ told.length ∧ i = .int .i64 k ∧ Drawn0 w3 wr) (fun i _ => told.length - (intOf i).toNat)
    case atStart => exact ⟨0, Nat.zero_le _, rfl, Drawn0.refl _⟩
    case round =>
      obtain ⟨k, hk, rfl, ⟨nd, rfl⟩⟩ := hrel
      by_cases hlt : k < told.length
      · have p1 : (0 : Int) ≤ (k : Int) := by omega
        have p2 : (k : Int) < (told.length : Int) := by omega
        obtain ⟨ad9, e9, hx9⟩ := Kd.at_bool HR9.out k p1 p2
        cases e9
        obtain ⟨ad10, e10, hx10⟩ := Kd.at_bool HR10.out k p1 p2
        cases e10
        rw [Int.toNat_natCast] at hx9 hx10
        have p3 : ((rdOf false told k) != (rdOf false told k)) = false := by simp
        go_wp2
        go_quiet (fail)
        go_wp2
        go_roundw
        case rel => exact ⟨k + 1, by omega, by go_num, ⟨⟨_, rfl⟩⟩⟩
        case measure => simp [intOf]; omega
      · go_wp2
        go_ret
        exact ⟨rfl, pw_below_drewN HB.out _⟩
end Go.Proofs.Ytklihfjchomkmaa
