/-
  The replay detector, walked: checkSeq tells whether a number is fresh, acceptSeq takes it.
-/
import Derived.Test.YtklihfjchomkmaaDet
import Derived.Deep.QuietTactic
import Derived.BigQuiet
namespace Go.Proofs.Ytklihfjchomkmaa
open Go.RowKit Go.Proofs.YtklihfjchomkmaaW.PrintWords

/-- The detector lies in three blocks. -/
structure DetAt (w : World) (D M B : Nat) (g most win : Int) (xs : List Int) : Prop where
  d : w.heap[D]? = some (.cells [.int .u64 g, .int .u64 most, .int .u64 win, .pointer (some ⟨M, 0, none⟩)].toArray 82)
  mask : MaskAt w M B win xs
  wm : win ≤ most
  mx : most < 281474976710656
  g0 : 0 ≤ g
  gm : g ≤ most

/-- Two blocks alone may have been written. -/
structure KeepD (D B : Nat) (w w' : World) : Prop where
  os : w'.os = w.os
  tape : w'.tape = w.tape
  output : w'.output = w.output
  size : w.heap.size ≤ w'.heap.size
  block : ∀ k, k < w.heap.size → k ≠ D → k ≠ B → w'.heap[k]? = w.heap[k]?

theorem KeepD.refl (D B : Nat) (w : World) : KeepD D B w w := ⟨rfl, rfl, rfl, Nat.le_refl _, fun _ _ _ _ => rfl⟩
theorem KeepD.trans {D B : Nat} {a b c : World} (h : KeepD D B a b) (k : KeepD D B b c) : KeepD D B a c :=
  ⟨k.os.trans h.os, k.tape.trans h.tape, k.output.trans h.output, Nat.le_trans h.size k.size, fun i hi h1 h2 => (k.block i (Nat.lt_of_lt_of_le hi h.size) h1 h2).trans (h.block i hi h1 h2)⟩
theorem KeepD.grown {D B : Nat} {a b c : World} (h : KeepD D B a b) (k : b.grownBy c (some B)) : KeepD D B a c :=
  h.trans ⟨k.os, k.tape, k.output, k.size, fun i hi _ h2 => k.block i hi (by simpa using h2)⟩
theorem KeepD.drew {D B : Nat} {a b : World} (h : KeepD D B a b) : KeepD D B a b.drew := ⟨h.os, h.tape, h.output, h.size, h.block⟩
theorem KeepD.drewN {D B : Nat} {a b : World} (h : KeepD D B a b) (n : Nat) : KeepD D B a (b.drewN n) := ⟨h.os, h.tape, h.output, h.size, h.block⟩
theorem KeepD.setD {D B : Nat} {a b : World} (h : KeepD D B a b) (j : Nat) (v : Value) : KeepD D B a (b.setCell ⟨D, j, none⟩ v) :=
  h.trans ⟨rfl, rfl, rfl, by simp [World.setCell], fun i _ h1 _ => Below.heap_setCell b ⟨D, j, none⟩ v i h1⟩

theorem quiet_add_left {P : Program} {f : FuncId} {args : Array Value} {w : World} {a n : Nat} {v : Value}
    (h : Calls P f args (w.drewN (a + n)) fun e w' => e = .returned v ∧ w.drewN (a + n) = w') :
    Calls P f args (w.drewN (a + n)) fun e w'' => e = .returned v ∧ ∃ m, w'' = w.drewN (a + m) :=
  h.mono fun _ _ ⟨he, hm⟩ => ⟨he, n, hm.symm⟩
theorem quiet_left {P : Program} {f : FuncId} {args : Array Value} {w : World} {n : Nat} {v : Value}
    (h : Calls P f args (w.drewN n) fun e w' => e = .returned v ∧ w.drewN n = w') : Calls P f args (w.drewN n) fun e w'' => e = .returned v ∧ ∃ m, w'' = w.drewN m :=
  h.mono fun _ _ ⟨he, hm⟩ => ⟨he, n, hm.symm⟩
theorem MaskAt.drewN {w : World} {M B : Nat} {win : Int} {xs : List Int} (h : MaskAt w M B win xs) (n : Nat) : MaskAt (w.drewN n) M B win xs := h.move rfl rfl

/-- is a number fresh? -/
def freshD (g most win : Int) (xs : List Int) (n : Int) : Bool := decide (n ≤ most) && (decide (g < n) || (decide (g - n < win) && !mb xs (g - n)))

set_option maxHeartbeats 400000 in
theorem check_any (D M B : Nat) (g most win n : Int) (xs : List Int) (w : World) (hd : DetAt w D M B g most win xs) (h0 : 0 ≤ n) :
    Calls Try.prog 45 #[.pointer (some ⟨D, 0, none⟩), .int .u64 n] w fun e w' => e = .returned (.bool (freshD g most win xs n)) ∧ Drawn0 w w' := by
  have d0 := cellB hd.d 0
  have d1 := cellB hd.d 1
  have d2 := cellB hd.d 2
  have d3 := cellB hd.d 3
  simp only [List.getElem?_cons_zero, List.getElem?_cons_succ] at d0 d1 d2 d3
  have hmask := Lib.hid hd.mask
  have hg0 := hd.g0
  have hgm := hd.gm
  have hmx := hd.mx
  have hw := hd.mask.hi
  have hw0 := hd.mask.lo
  clear hd
  by_cases c1 : most < n
  · have hf : Hid (freshD g most win xs n = false) := by
      have : ¬ n ≤ most := by omega
      simp [Hid, freshD, this]
    go_enter Try.func45, Try.ntmps45
    go_wp2
    go_ret
    exact ⟨by rw [hf.out]; rfl, Drawn0.refl _⟩
  · by_cases c2 : n ≤ g
    · by_cases c3 : win + n ≤ g
      · have hf : Hid (freshD g most win xs n = false) := by
          have : ¬ g < n := by omega
          have : ¬ g - n < win := by omega
          simp [Hid, freshD, *]
        go_enter Try.func45, Try.ntmps45
        go_wp2
        go_quiet (fail)
        go_wp2
        go_ret
        exact ⟨by rw [hf.out]; rfl, (Drawn0.refl _).step _⟩
      · have hs : IntKind.u64.wrap (g - n) = g - n := by rw [IntKind.wrap_u64]; omega
        cases hb : mb xs (g - n)
        · have hf : Hid (freshD g most win xs n = true) := by
            have : ¬ g < n := by omega
            have : g - n < win := by omega
            have : n ≤ most := by omega
            simp [Hid, freshD, *]
          have hbi : Hid (bitOf (mb xs (g - n)) = 0) := by simp [Hid, hb, bitOf]
          clear hb
          go_enter Try.func45, Try.ntmps45
          go_wp2
          go_quiet (fail)
          go_wp2
          go_quiet ((go_at_call 48; exact quiet_add_left ((bit_in M B win (g - n) xs _ (hmask.out.drewN _) (by omega) (by omega)).mono (fun e w' h => ⟨by rw [h.1, hbi.out], h.2⟩))))
          go_wp2
          go_ret
          exact ⟨by rw [hf.out]; rfl, ((Drawn0.refl _).step _).step _⟩
        · have hf : Hid (freshD g most win xs n = false) := by
            have : ¬ g < n := by omega
            simp [Hid, freshD, *]
          have hbi : Hid (bitOf (mb xs (g - n)) = 1) := by simp [Hid, hb, bitOf]
          clear hb
          go_enter Try.func45, Try.ntmps45
          go_wp2
          go_quiet (fail)
          go_wp2
          go_quiet ((go_at_call 48; exact quiet_add_left ((bit_in M B win (g - n) xs _ (hmask.out.drewN _) (by omega) (by omega)).mono (fun e w' h => ⟨by rw [h.1, hbi.out], h.2⟩))))
          go_wp2
          go_ret
          exact ⟨by rw [hf.out]; rfl, ((Drawn0.refl _).step _).step _⟩
    · have hf : Hid (freshD g most win xs n = true) := by
        have : g < n := by omega
        have : n ≤ most := by omega
        simp [Hid, freshD, *]
      go_enter Try.func45, Try.ntmps45
      go_wp2
      go_ret
      exact ⟨by rw [hf.out]; rfl, Drawn0.refl _⟩

theorem setV {w : World} {B : Nat} {e : TypeId} {l : List Value} (h : w.heap[B]? = some (.cells l.toArray e)) (j : Nat) (v : Value) : (w.setCell ⟨B, j, none⟩ v).heap[B]? = some (.cells (l.set j v).toArray e) := by
  simp [World.setCell, Array.getElem?_modify, h, Array.setIfInBounds]
  intro hj
  rw [List.set_eq_of_length_le (by simpa using hj)]

/-- what a number that is taken does -/
def takeG (g n : Int) : Int := if g < n then n else g
def takeL (g win : Int) (xs : List Int) (n : Int) : List Int := if g < n then setB (lshL xs win (n - g)) 0 else setB xs (g - n)

def Took (w : World) (D M B : Nat) (g most win : Int) (xs : List Int) (n : Int) (e : Ending) (w' : World) : Prop :=
  ∃ b, e = .returned (.bool b) ∧ DetAt w' D M B (takeG g n) most win (takeL g win xs n) ∧ KeepD D B w w'

theorem DetAt.ne {w : World} {D M B : Nat} {g most win : Int} {xs : List Int} (h : DetAt w D M B g most win xs) : D ≠ M ∧ D ≠ B := by
  constructor
  · rintro rfl
    have h1 := h.d.symm.trans h.mask.m
    injection h1 with h1
    injection h1 with _ h2
    exact absurd h2 (by decide)
  · rintro rfl
    have h1 := h.d.symm.trans h.mask.b
    injection h1 with h1
    injection h1 with _ h2
    exact absurd h2 (by decide)

set_option maxRecDepth 100000 in
set_option maxHeartbeats 1000000 in
theorem accept_later (D M B : Nat) (g most win n : Int) (xs : List Int) (w : World) (hd : DetAt w D M B g most win xs) (h0 : g < n) (hn : n ≤ most) :
    Calls Try.prog 44 #[.pointer (some ⟨D, 0, none⟩), .int .u64 n] w fun e w' => Took w D M B g most win xs n e w' := by
  have d0 := cellB hd.d 0
  have d1 := cellB hd.d 1
  have d2 := cellB hd.d 2
  have d3 := cellB hd.d 3
  have f0 := frozB hd.d 0
  simp only [List.getElem?_cons_zero, List.getElem?_cons_succ] at d0 d1 d2 d3
  have hg0 := hd.g0
  have hgm := hd.gm
  have hmx := hd.mx
  have hw := hd.mask.hi
  have hw0 := hd.mask.lo
  have hz : (n == 0) = false := by rw [beq_eq_false_iff_ne]; omega
  have hs : IntKind.u64.wrap (n - g) = n - g := by rw [IntKind.wrap_u64]; omega
  have HD := Lib.hid hd
  clear hd
  go_enter Try.func44, Try.ntmps44
  go_wp2
  go_still_tail 10, (by kernel_rfl)
  change wpList _ _ _ _ _ w.drew
  have hm0 : Hid (MaskAt w.drew M B win xs) := HD.out.mask.move rfl rfl
  go_wp2_with fail
  refine (lsh_go M B win (n - g) xs _ hm0.out (by omega) (by omega)).mono ?_
  rintro e w1 ⟨rfl, hm1, hg1⟩
  have hDM := HD.out.ne
  have hD1 : w1.heap[D]? = w.heap[D]? := hg1.block D (ltB HD.out.d) (by simp only [ne_eq, Option.some.injEq]; exact hDM.2)
  have hD2 : w1.heap[D]? = some (.cells [.int .u64 g, .int .u64 most, .int .u64 win, .pointer (some ⟨M, 0, none⟩)].toArray 82) := hD1.trans HD.out.d
  have d0 := cellB hD2 0
  have d1 := cellB hD2 1
  have d3 := cellB hD2 3
  have f0 := frozB hD2 0
  simp only [List.getElem?_cons_zero, List.getElem?_cons_succ] at d0 d1 d3
  have HD2 := Lib.hid hD2
  have HM1 := Lib.hid hm1
  have HG1 := Lib.hid hg1
  clear hD1 hD2 hm1 hg1 hs
  go_wp2
  have z1 : IntKind.u64.wrap 0 = 0 := by decide
  have z2 : (most == 0) = false := by rw [beq_eq_false_iff_ne]; omega
  have z3 : ¬ most = 0 := by omega
  go_quiet (fail)
  clear z1 z2 z3
  have hD3 := setV HD2.out 0 (.int .u64 n)
  have hM3 : MaskAt (w1.setCell ⟨D, 0, none⟩ (.int .u64 n)) M B win (lshL xs win (n - g)) := HM1.out.move (Below.heap_setCell w1 ⟨D, 0, none⟩ _ M hDM.1.symm) (Below.heap_setCell w1 ⟨D, 0, none⟩ _ B hDM.2.symm)
  have hK3 : KeepD D B w (w1.setCell ⟨D, 0, none⟩ (.int .u64 n)) := ((KeepD.refl D B w).drew.grown HG1.out).setD 0 _
  clear d0 d1 d3 f0
  generalize hw2 : (w1.setCell ⟨D, 0, none⟩ (.int .u64 n)).drewN _ = w2
  have hh : w2.heap = (w1.setCell ⟨D, 0, none⟩ (.int .u64 n)).heap := by rw [← hw2]; rfl
  have hD4 : w2.heap[D]? = some (.cells [.int .u64 n, .int .u64 most, .int .u64 win, .pointer (some ⟨M, 0, none⟩)].toArray 82) := by rw [hh]; exact hD3
  have hM4 : MaskAt w2 M B win (lshL xs win (n - g)) := hM3.move (by rw [hh]) (by rw [hh])
  have hK4 : KeepD D B w w2 := by rw [← hw2]; exact hK3.drewN _
  have d3 := cellB hD4 3
  simp only [List.getElem?_cons_zero, List.getElem?_cons_succ] at d3
  have HD4 := Lib.hid hD4
  have HM4 := Lib.hid hM4
  have HK4 := Lib.hid hK4
  clear hD4 hM4 hK4 hh hw2 hD3 hM3 hK3
  go_wp2_with fail
  refine (setbit_in M B win 0 _ _ HM4.out (by omega) (by omega)).mono ?_
  rintro e w3 ⟨rfl, hm5, hg5⟩
  have HM5 := Lib.hid hm5
  have HG5 := Lib.hid hg5
  clear hm5 hg5 d3
  go_wp2
  go_ret
  refine ⟨_, rfl, ⟨?_, ?_, HD.out.wm, HD.out.mx, ?_, ?_⟩, HK4.out.grown HG5.out⟩
  · rw [takeG, if_pos h0, HG5.out.block D (ltB HD4.out) (by simp only [ne_eq, Option.some.injEq]; exact hDM.2)]
    exact HD4.out
  · rw [takeL, if_pos h0]; exact HM5.out
  · rw [takeG, if_pos h0]; omega
  · rw [takeG, if_pos h0]; exact hn

theorem took_within {w w3 : World} {D M B : Nat} {g most win n : Int} {xs : List Int} {nq : Nat} {b : Value} (h : DetAt w D M B g most win xs) (h0 : n ≤ g) (hm : MaskAt w3 M B win (setB xs (g - n))) (hg : (w.drewN nq).grownBy w3 (some B)) (hb : ∃ x, b = .bool x) : Took w D M B g most win xs n (.returned b) w3 := by
  have hlt : ¬ g < n := by omega
  obtain ⟨x, rfl⟩ := hb
  refine ⟨x, rfl, ⟨?_, ?_, h.wm, h.mx, ?_, ?_⟩, ((KeepD.refl D B w).drewN nq).grown hg⟩
  · rw [takeG, if_neg hlt, hg.block D (ltB h.d) (by simp only [ne_eq, Option.some.injEq]; exact h.ne.2)]
    exact h.d
  · rw [takeL, if_neg hlt]; exact hm
  · rw [takeG, if_neg hlt]; exact h.g0
  · rw [takeG, if_neg hlt]; exact h.gm

set_option maxRecDepth 100000 in
set_option maxHeartbeats 1000000 in
theorem accept_within (D M B : Nat) (g most win n : Int) (xs : List Int) (w : World) (hd : DetAt w D M B g most win xs) (h00 : 0 ≤ n) (h0 : n ≤ g) (hn : g - n < win) :
    Calls Try.prog 44 #[.pointer (some ⟨D, 0, none⟩), .int .u64 n] w fun e w' => Took w D M B g most win xs n e w' := by
  have d0 := cellB hd.d 0
  have d1 := cellB hd.d 1
  have d2 := cellB hd.d 2
  have d3 := cellB hd.d 3
  simp only [List.getElem?_cons_zero, List.getElem?_cons_succ] at d0 d1 d2 d3
  have hg0 := hd.g0
  have hgm := hd.gm
  have hmx := hd.mx
  have hwm := hd.wm
  have hw := hd.mask.hi
  have hw0 := hd.mask.lo
  have z0 : (g - n) % most = g - n := Int.emod_eq_of_lt (by omega) (by omega)
  have z1 : IntKind.u64.wrap (g - n) = g - n := by rw [IntKind.wrap_u64]; omega
  have z2 : (most == 0) = false := by rw [beq_eq_false_iff_ne]; omega
  have z3 : ¬ most = 0 := by omega
  have HD := Lib.hid hd
  clear hd
  cases c1 : (n == 0)
  · go_enter Try.func44, Try.ntmps44
    go_wp2
    go_quiet (fail)
    go_wp2_with fail
    refine (setbit_in M B win (g - n) _ _ (HD.out.mask.drewN _) (by omega) (by omega)).mono ?_
    rintro e w3 ⟨rfl, hm5, hg5⟩
    have HM5 := Lib.hid hm5
    have HG5 := Lib.hid hg5
    clear hm5 hg5 d0 d1 d2 d3 z0 z1 z2 z3
    go_wp2
    go_ret
    exact took_within HD.out h0 HM5.out HG5.out ⟨_, rfl⟩
  · cases c2 : (g == 0)
    · go_enter Try.func44, Try.ntmps44
      go_wp2
      go_quiet (fail)
      go_wp2_with fail
      refine (setbit_in M B win (g - n) _ _ (HD.out.mask.drewN _) (by omega) (by omega)).mono ?_
      rintro e w3 ⟨rfl, hm5, hg5⟩
      have HM5 := Lib.hid hm5
      have HG5 := Lib.hid hg5
      clear hm5 hg5 d0 d1 d2 d3 z0 z1 z2 z3
      go_wp2
      go_ret
      exact took_within HD.out h0 HM5.out HG5.out ⟨_, rfl⟩
    · have hm0 := HD.out.mask
      go_enter Try.func44, Try.ntmps44
      go_wp2_with fail
      refine (bit_in M B win 0 xs _ hm0 (by omega) (by omega)).mono ?_
      rintro e w1 ⟨rfl, rfl⟩
      go_wp2
      go_quiet (fail)
      go_wp2_with fail
      refine (setbit_in M B win (g - n) _ _ (HD.out.mask.drewN _) (by omega) (by omega)).mono ?_
      rintro e w3 ⟨rfl, hm5, hg5⟩
      have HM5 := Lib.hid hm5
      have HG5 := Lib.hid hg5
      clear hm5 hg5 d0 d1 d2 d3 z0 z1 z2 z3
      go_wp2
      go_ret
      exact took_within HD.out h0 HM5.out HG5.out ⟨_, rfl⟩
end Go.Proofs.Ytklihfjchomkmaa
