/-
  FnWindowSpan, walked: numbers that are closer together than a window is wide are each fresh once.
-/
import Derived.Test.YtklihfjchomkmaaSpan
import Derived.Test.YtklihfjchomkmaaPFnWindowSpanx1
import Derived.Test.YtklihfjchomkmaaLawB
import Derived.Test.YtklihfjchomkmaaSpec
namespace Go.Proofs.Ytklihfjchomkmaa
set_option linter.unusedSimpArgs false
open Go.RowKit Go.Proofs.YtklihfjchomkmaaW.PrintWords Go.Proofs.YtklihfjchomkmaaW.PrintLast Go.Proofs.YtklihfjchomkmaaW.PrintMore PFnWindowSpan

/-- a step within a window -/
def wi (win x : Int) : Int := if x.tmod win < 0 then x.tmod win + win else x.tmod win

theorem wi_range (win x : Int) (h : 1 ≤ win) : 0 ≤ wi win x ∧ wi win x < win := by
  have h1 := Int.tmod_lt_of_pos x (show 0 < win by omega)
  have h2 : -win < x.tmod win := by
    have h3 := Int.tmod_lt_of_pos (-x) (show 0 < win by omega)
    rw [Int.neg_tmod] at h3
    omega
  unfold wi
  split <;> omega

theorem wi_f (win x : Int) (h : 1 ≤ win) (h2 : win ≤ 500) : laws_within.f x win = some (wi win x) := by
  unfold laws_within.f wi
  have h1 := Int.tmod_lt_of_pos x (show 0 < win by omega)
  rw [if_neg (by omega)]
  by_cases hc : x.tmod win < 0
  · rw [if_pos hc, if_pos hc]
    have h3 := Int.tmod_lt_of_pos (-x) (show 0 < win by omega)
    rw [Int.neg_tmod] at h3
    congr 1
    unfold wrap64
    omega
  · rw [if_neg hc, if_neg hc]

/-- what the loop makes -/
structure PSt where
  nums : List Int
  yes : List Bool
  want : List Bool
  seen : List Int

def stepS (win bs : Int) (s : PSt) (x : Int) : PSt :=
  ⟨s.nums ++ [bs + wi win x], s.yes ++ [true], s.want ++ [!s.seen.contains (bs + wi win x)], if s.seen.contains (bs + wi win x) then s.seen else s.seen ++ [bs + wi win x]⟩
def runS (win bs : Int) (l : List Int) : PSt := l.foldl (stepS win bs) ⟨[], [], [], []⟩

theorem runS_step (win bs : Int) (l : List Int) (k : Nat) (hk : k < l.length) : runS win bs (l.take (k + 1)) = stepS win bs (runS win bs (l.take k)) (rd l k) := by
  have e : rd l k = l[k] := by rw [rd, Int.toNat_natCast, List.getD_eq_getElem?_getD, List.getElem?_eq_getElem hk]; rfl
  rw [List.take_succ_eq_append_getElem hk, runS, List.foldl_append, e]; rfl

theorem foldS (win bs : Int) (l : List Int) : ∀ s : PSt, (l.foldl (stepS win bs) s).nums = s.nums ++ l.map (fun x => bs + wi win x) ∧ (l.foldl (stepS win bs) s).yes = s.yes ++ l.map (fun _ => true) ∧ (l.foldl (stepS win bs) s).want.length = s.want.length + l.length := by
  induction l with
  | nil => intro s; simp
  | cons x l ih =>
    intro s
    rw [List.foldl_cons]
    obtain ⟨h1, h2, h3⟩ := ih (stepS win bs s x)
    rw [h1, h2, h3]
    simp [stepS]
    omega

theorem tell_span (most win bs : Int) (h1 : 1 ≤ win) (hm : bs + win ≤ most) (l : List Int) : ∀ (s : PSt) (g : Int) (tk : Int → Bool), (∀ x, tk x = s.seen.contains x) → g < bs + win →
    (l.foldl (stepS win bs) s).want = s.want ++ tellA most win g tk (l.map fun x => (bs + wi win x, true)) := by
  induction l with
  | nil => intro s g tk _ _; simp [tellA]
  | cons x l ih =>
    intro s g tk ht hg
    have hr := wi_range win x h1
    rw [List.foldl_cons, List.map_cons, tellA_cons]
    have hf : freshA most win g tk (bs + wi win x) = !s.seen.contains (bs + wi win x) := by
      unfold freshA
      have a1 : decide (bs + wi win x ≤ most) = true := by simp only [decide_eq_true_eq]; omega
      have a2 : (decide (g < bs + wi win x) || decide (g - (bs + wi win x) < win)) = true := by
        simp only [Bool.or_eq_true, decide_eq_true_eq]; omega
      rw [a1, a2, ht]
      rfl
    rw [hf]
    cases hc : s.seen.contains (bs + wi win x)
    · simp only [Bool.not_false, if_true]
      rw [ih (stepS win bs s x) (max g (bs + wi win x)) (fun y => y == bs + wi win x || tk y) (fun y => ?_) (by omega)]
      · simp only [stepS, hc, Bool.not_false, List.append_assoc, List.singleton_append]
      · simp only [stepS, hc, Bool.false_eq_true, if_false, ht]
        exact (contains_snoc s.seen _ y).symm
    · simp only [Bool.not_true, Bool.false_eq_true, if_false]
      rw [ih (stepS win bs s x) g tk (fun y => ?_) hg]
      · simp only [stepS, hc, Bool.not_true, List.append_assoc, List.singleton_append]
      · simp only [stepS, hc, if_true, ht]

theorem und32 : Try.prog.underlying 32 = some (.slice 3) := Try.underlying32

set_option maxRecDepth 100000 in
set_option maxHeartbeats 4000000 in
theorem span_law (win bs : Int) (A2 : Option Addr) (c2 : Nat) (l2 : List Int) (w : World) (h00 : -9223372036854775808 ≤ win) (h01 : win ≤ 9223372036854775807) (hb0 : 0 ≤ bs) (hr2 : Kd.C (Kd.int .i64) w A2 l2.length l2) :
    Calls Try.prog 6 #[.int .i64 win, .int .u64 bs, .slice A2 l2.length c2] w fun e w' => e = .returned (.bool true) ∧ Below w.heap.size w w' := by
  have HR2 := Aside0.mk hr2
  clear hr2
  by_cases g0 : (2147483647 : Int) < l2.length
  · go_enter Try.func6, Try.ntmps6
    go_wp2
    go_ret
    exact ⟨rfl, Below.refl _ _⟩
  by_cases g1 : win < 1
  · go_enter Try.func6, Try.ntmps6
    go_wp2
    go_ret
    exact ⟨rfl, Below.refl _ _⟩
  by_cases g2 : 500 < win
  · go_enter Try.func6, Try.ntmps6
    go_wp2
    go_ret
    exact ⟨rfl, Below.refl _ _⟩
  by_cases g3 : 32 < win % 64
  · go_enter Try.func6, Try.ntmps6
    go_wp2
    go_ret
    exact ⟨rfl, Below.refl _ _⟩
  by_cases g4 : 140737488355327 < bs
  · go_enter Try.func6, Try.ntmps6
    go_wp2
    go_ret
    exact ⟨rfl, Below.refl _ _⟩
  by_cases g5 : (300 : Int) < l2.length
  · go_enter Try.func6, Try.ntmps6
    go_wp2
    go_ret
    exact ⟨rfl, Below.refl _ _⟩
  have HB3 : Aside0 (win % 64 ≤ 32) := ⟨by omega⟩
  have hmm := @run_makeMap Try.prog
  have H0 : Aside0 (SNode w w.heap.size 0 false (runS win bs (l2.take 0)).seen none none none (.slice none 0 0) (.slice none 0 0) (.slice none 0 0) (runS win bs (l2.take 0)).nums (runS win bs (l2.take 0)).yes (runS win bs (l2.take 0)).want (w.alloc (.map #[] 0))) :=
    ⟨⟨Kd.R_nil _ _ _ _ _, Kd.R_nil _ _ _ _ _, Kd.R_nil _ _ _ _ _, HasMap.new .u64 w, below_alloc (Below.refl _ w) _, (fun g e => by cases e), (fun g e => by cases e), (fun g e => by cases e)⟩⟩
  go_enter Try.func6, Try.ntmps6
  go_wp2
  go_loopw [8, 9, 10, 45] (fun v8 v9 v10 i wr => ∃ k : Nat, k ≤ l2.length ∧ i = .int .i64 k ∧ Aside0 (SNode w w.heap.size 0 false (runS win bs (l2.take k)).seen none none none v8 v9 v10 (runS win bs (l2.take k)).nums (runS win bs (l2.take k)).yes (runS win bs (l2.take k)).want wr)) (fun _ _ _ i _ => l2.length - (intOf i).toNat)
  case atStart => exact ⟨0, Nat.zero_le _, rfl, H0⟩
  case round =>
    clear H0 hmm
    obtain ⟨k, hk, rfl, hrel⟩ := hrel
    by_cases hlt : k < l2.length
    · have p1 : (0 : Int) ≤ (k : Int) := by omega
      have p2 : (k : Int) < (l2.length : Int) := by omega
      obtain ⟨ad, e, hx⟩ := Kd.at_int HR2.out k p1 p2
      cases e
      replace hx := (hrel.out.bel.cell (World.block_lt_of_cell? w _ hx)).trans hx
      rw [Int.toNat_natCast] at hx
      have HST := Aside0.mk (runS_step win bs l2 k hlt)
      have hwr := wi_range win (rd l2 k) (by omega)
      have HWI := Aside0.mk (wi_f win (rd l2 k) (by omega) (by omega))
      have hln := (foldS win bs (l2.take k) ⟨[], [], [], []⟩)
      have hlk : (l2.take k).length ≤ 300 := by rw [List.length_take]; omega
      have HL8 : Aside0 ((runS win bs (l2.take k)).nums.length ≤ 1000) := ⟨by unfold runS; rw [hln.1]; simp; omega⟩
      have HL9 : Aside0 ((runS win bs (l2.take k)).yes.length ≤ 1000) := ⟨by unfold runS; rw [hln.2.1]; simp; omega⟩
      have HL10 : Aside0 ((runS win bs (l2.take k)).want.length ≤ 1000) := ⟨by unfold runS; rw [hln.2.2]; simp; omega⟩
      clear hln hlk
      obtain ⟨s0, hs0⟩ : ∃ s0, s0 = runS win bs (l2.take k) := ⟨_, rfl⟩
      rw [← hs0] at HST HL8 HL9 HL10 hrel
      obtain ⟨r, hr⟩ : ∃ r, r = wi win (rd l2 k) := ⟨_, rfl⟩
      have HST2 : Aside0 (runS win bs (l2.take (k + 1)) = ⟨s0.nums ++ [bs + r], s0.yes ++ [true], s0.want ++ [!s0.seen.contains (bs + r)], if s0.seen.contains (bs + r) then s0.seen else s0.seen ++ [bs + r]⟩) := ⟨by rw [HST.out, hr]; rfl⟩
      rw [← hr] at hwr HWI
      obtain ⟨r0, r1⟩ := hwr
      clear hs0 hr HST
      obtain ⟨A8, c8, e8⟩ := Kd.R_slice hrel.out.r8
      subst e8
      obtain ⟨A9, c9, e9⟩ := Kd.R_slice hrel.out.r9
      subst e9
      obtain ⟨A10, c10, e10⟩ := Kd.R_slice hrel.out.r10
      subst e10
      have HWF : Aside0 ((Lit.int .u64 (bs + r)).wf = true) := ⟨by simp only [Lit.wf, IntKind.min, IntKind.max, IntKind.signed, IntKind.bits]; simp; omega⟩
      obtain ⟨cs, hcs⟩ : ∃ cs, cs = s0.seen.contains (bs + r) := ⟨_, rfl⟩
      rw [← hcs] at HST2
      have HCS := Aside0.mk hcs
      clear hcs
      go_wp2_with fail
      refine (laws_within.calls (rd l2 k) win r wr HWI.out).mono ?_
      rintro e w1 ⟨rfl, hd⟩
      obtain ⟨nd, rfl⟩ := hd
      have hN0 := (hrel.out.re (bs + r) (!cs)).below (pw_below_drewN (Below.refl _ wr) nd)
      generalize wr.drewN nd = wq at *
      have HN0 := Aside0.mk hN0
      clear hN0 hrel hx HR2
      go_wp2_with fail
      have hN := HN0.out.drew
      refine start_ (n := 17) (S := fun w' => (Instr.lookup 33 (.map (some w.heap.size)) (.int .u64 (bs + r)) false).run Try.prog w' = .ok (.bool cs) w') (ds := []) #[false, false, false, false, false, false, false, false, false, false, false, false, false, false, false, false, false] (by kernel_rfl) rfl rfl ((hN.look HWF.out HCS.out)) (fun hHeld => ?_)
      refine pure_ (i := 0) (N := some 55) (v := ?_) (a' := ?_) #[true, false, false, false, false, false, false, false, false, false, false, false, false, false, false, false, false] rfl rfl (by kernel_rfl) (fun _ _ _ h => h) (Or.inl ⟨by rfl, ?_⟩) ?_ ?_
      rotate_left
      · intro w'
        go_simp
        with_reducible rfl
      rotate_left
      · simp only [Act.put, List.setIfInBounds_toArray, List.set_cons_zero, List.set_cons_succ, i64_w, i32_w]
        rfl
      refine pure_ (i := 1) (N := some 56) (v := ?_) (a' := ?_) #[true, true, false, false, false, false, false, false, false, false, false, false, false, false, false, false, false] rfl rfl (by kernel_rfl) (fun _ _ _ h => h) (Or.inl ⟨by rfl, ?_⟩) ?_ ?_
      rotate_left
      · intro w'
        go_simp
        with_reducible rfl
      rotate_left
      · simp only [Act.put, List.setIfInBounds_toArray, List.set_cons_zero, List.set_cons_succ, i64_w, i32_w]
        rfl
      refine pure_ (i := 4) (N := some 59) (v := ?_) (a' := ?_) #[true, true, false, false, true, false, false, false, false, false, false, false, false, false, false, false, false] rfl rfl (by kernel_rfl) (fun _ _ _ h => h) (Or.inl ⟨by rfl, ?_⟩) ?_ ?_
      rotate_left
      · intro w'
        go_simp
        with_reducible rfl
      rotate_left
      · simp only [Act.put, List.setIfInBounds_toArray, List.set_cons_zero, List.set_cons_succ, i64_w, i32_w]
        rfl
      refine pure_ (i := 7) (N := some 62) (v := ?_) (a' := ?_) #[true, true, false, false, true, false, false, true, false, false, false, false, false, false, false, false, false] rfl rfl (by kernel_rfl) (fun _ _ _ h => h) (Or.inl ⟨by rfl, ?_⟩) ?_ ?_
      rotate_left
      · intro w'
        go_simp
        with_reducible rfl
      rotate_left
      · simp only [Act.put, List.setIfInBounds_toArray, List.set_cons_zero, List.set_cons_succ, i64_w, i32_w]
        rfl
      refine pure_ (i := 8) (N := some 63) (v := ?_) (a' := ?_) #[true, true, false, false, true, false, false, true, true, false, false, false, false, false, false, false, false] rfl rfl (by kernel_rfl) (fun _ _ _ h => h) (Or.inl ⟨by rfl, ?_⟩) ?_ ?_
      rotate_left
      · intro w'
        go_simp
        with_reducible rfl
      rotate_left
      · simp only [Act.put, List.setIfInBounds_toArray, List.set_cons_zero, List.set_cons_succ, i64_w, i32_w]
        rfl
      refine pure_ (i := 9) (N := some 64) (v := ?_) (a' := ?_) #[true, true, false, false, true, false, false, true, true, true, false, false, false, false, false, false, false] rfl rfl (by kernel_rfl) (fun _ _ _ h => h) (Or.inl ⟨by rfl, ?_⟩) ?_ ?_
      rotate_left
      · intro w'
        go_simp
        with_reducible rfl
      rotate_left
      · simp only [Act.put, List.setIfInBounds_toArray, List.set_cons_zero, List.set_cons_succ, i64_w, i32_w]
        rfl
      refine take_ (i := 10) (N := some 65) (v := ?_) (a' := ?_) #[true, true, false, false, true, false, false, true, true, true, true, false, false, false, false, false, false] rfl rfl (by kernel_rfl) (fun _ _ _ h => h) (Or.inl ⟨by rfl, ?_⟩) hHeld ?_ ?_
      rotate_left
      · intro w' s0
        go_simp
        with_reducible rfl
      rotate_left
      · simp only [Act.put, List.setIfInBounds_toArray, List.set_cons_zero, List.set_cons_succ, i64_w, i32_w]
        rfl
      refine pure_ (i := 11) (N := some 66) (v := ?_) (a' := ?_) #[true, true, false, false, true, false, false, true, true, true, true, true, false, false, false, false, false] rfl rfl (by kernel_rfl) (fun _ _ _ h => h) (Or.inl ⟨by rfl, ?_⟩) ?_ ?_
      rotate_left
      · intro w'
        go_simp
        with_reducible rfl
      rotate_left
      · simp only [Act.put, List.setIfInBounds_toArray, List.set_cons_zero, List.set_cons_succ, i64_w, i32_w]
        rfl
      refine join_ (σ := Nat × Value × Nat × Value × Nat) 4 #[true, true, true, true, true, true, true, true, true, true, true, true, true, false, false, false, false] (fun s => [(57, .slice (some ⟨s.1, 0, none⟩) 1 1), (58, s.2.1), (60, .slice (some ⟨s.2.2.1, 0, none⟩) 1 1), (61, s.2.2.2.1), (67, .slice (some ⟨s.2.2.2.2, 0, none⟩) 1 1)]) (fun s w' => SNode w w.heap.size (bs + r) (!cs) s0.seen none none (some s.2.2.2.2) s.2.1 s.2.2.2.1 (.slice A10 s0.want.length c10) (s0.nums ++ [bs + r]) (s0.yes ++ [true]) s0.want w') ?_ ?_
      rotate_left
      · intro hJ2_3_5_6_12
        refine join_ (σ := Nat × Value × Nat × Value) 5 #[true, true, true, true, true, true, true, true, true, true, true, true, false, false, false, false, false] (fun s => [(57, .slice (some ⟨s.1, 0, none⟩) 1 1), (58, s.2.1), (60, .slice (some ⟨s.2.2.1, 0, none⟩) 1 1), (61, s.2.2.2)]) (fun s w' => SNode w w.heap.size (bs + r) (!cs) s0.seen none none none s.2.1 s.2.2.2 (.slice A10 s0.want.length c10) (s0.nums ++ [bs + r]) (s0.yes ++ [true]) s0.want w') ?_ ?_
        rotate_left
        · intro hJ2_3_5_6
          refine join_ (σ := Nat × Value × Nat × Nat) 5 #[true, true, true, true, true, true, false, true, true, true, true, true, true, false, false, false, false] (fun s => [(57, .slice (some ⟨s.1, 0, none⟩) 1 1), (58, s.2.1), (60, .slice (some ⟨s.2.2.1, 0, none⟩) 1 1), (67, .slice (some ⟨s.2.2.2, 0, none⟩) 1 1)]) (fun s w' => SNode w w.heap.size (bs + r) (!cs) s0.seen none (some s.2.2.1) (some s.2.2.2) s.2.1 (.slice A9 s0.yes.length c9) (.slice A10 s0.want.length c10) (s0.nums ++ [bs + r]) s0.yes s0.want w') ?_ ?_
          rotate_left
          · intro hJ2_3_5_12
            refine join_ (σ := Nat × Value × Nat) 6 #[true, true, true, true, true, true, false, true, true, true, true, true, false, false, false, false, false] (fun s => [(57, .slice (some ⟨s.1, 0, none⟩) 1 1), (58, s.2.1), (60, .slice (some ⟨s.2.2, 0, none⟩) 1 1)]) (fun s w' => SNode w w.heap.size (bs + r) (!cs) s0.seen none (some s.2.2) none s.2.1 (.slice A9 s0.yes.length c9) (.slice A10 s0.want.length c10) (s0.nums ++ [bs + r]) s0.yes s0.want w') ?_ ?_
            rotate_left
            · intro hJ2_3_5
              refine join_ (σ := Nat × Value × Nat) 6 #[true, true, true, true, true, false, false, true, true, true, true, true, true, false, false, false, false] (fun s => [(57, .slice (some ⟨s.1, 0, none⟩) 1 1), (58, s.2.1), (67, .slice (some ⟨s.2.2, 0, none⟩) 1 1)]) (fun s w' => SNode w w.heap.size (bs + r) (!cs) s0.seen none none (some s.2.2) s.2.1 (.slice A9 s0.yes.length c9) (.slice A10 s0.want.length c10) (s0.nums ++ [bs + r]) s0.yes s0.want w') ?_ ?_
              rotate_left
              · intro hJ2_3_12
                refine join_ (σ := Nat × Nat × Nat) 6 #[true, true, true, false, true, true, false, true, true, true, true, true, true, false, false, false, false] (fun s => [(57, .slice (some ⟨s.1, 0, none⟩) 1 1), (60, .slice (some ⟨s.2.1, 0, none⟩) 1 1), (67, .slice (some ⟨s.2.2, 0, none⟩) 1 1)]) (fun s w' => SNode w w.heap.size (bs + r) (!cs) s0.seen (some s.1) (some s.2.1) (some s.2.2) (.slice A8 s0.nums.length c8) (.slice A9 s0.yes.length c9) (.slice A10 s0.want.length c10) s0.nums s0.yes s0.want w') ?_ ?_
                rotate_left
                · intro hJ2_5_12
                  refine join_ (σ := Nat × Value) 7 #[true, true, true, true, true, false, false, true, true, true, true, true, false, false, false, false, false] (fun s => [(57, .slice (some ⟨s.1, 0, none⟩) 1 1), (58, s.2)]) (fun s w' => SNode w w.heap.size (bs + r) (!cs) s0.seen none none none s.2 (.slice A9 s0.yes.length c9) (.slice A10 s0.want.length c10) (s0.nums ++ [bs + r]) s0.yes s0.want w') ?_ ?_
                  rotate_left
                  · intro hJ2_3
                    refine join_ (σ := Nat × Nat) 7 #[true, true, true, false, true, true, false, true, true, true, true, true, false, false, false, false, false] (fun s => [(57, .slice (some ⟨s.1, 0, none⟩) 1 1), (60, .slice (some ⟨s.2, 0, none⟩) 1 1)]) (fun s w' => SNode w w.heap.size (bs + r) (!cs) s0.seen (some s.1) (some s.2) none (.slice A8 s0.nums.length c8) (.slice A9 s0.yes.length c9) (.slice A10 s0.want.length c10) s0.nums s0.yes s0.want w') ?_ ?_
                    rotate_left
                    · intro hJ2_5
                      refine join_ (σ := Nat × Nat) 7 #[true, true, true, false, true, false, false, true, true, true, true, true, true, false, false, false, false] (fun s => [(57, .slice (some ⟨s.1, 0, none⟩) 1 1), (67, .slice (some ⟨s.2, 0, none⟩) 1 1)]) (fun s w' => SNode w w.heap.size (bs + r) (!cs) s0.seen (some s.1) none (some s.2) (.slice A8 s0.nums.length c8) (.slice A9 s0.yes.length c9) (.slice A10 s0.want.length c10) s0.nums s0.yes s0.want w') ?_ ?_
                      rotate_left
                      · intro hJ2_12
                        refine join_ (σ := Nat × Nat) 7 #[true, true, false, false, true, true, false, true, true, true, true, true, true, false, false, false, false] (fun s => [(60, .slice (some ⟨s.1, 0, none⟩) 1 1), (67, .slice (some ⟨s.2, 0, none⟩) 1 1)]) (fun s w' => SNode w w.heap.size (bs + r) (!cs) s0.seen none (some s.1) (some s.2) (.slice A8 s0.nums.length c8) (.slice A9 s0.yes.length c9) (.slice A10 s0.want.length c10) s0.nums s0.yes s0.want w') ?_ ?_
                        rotate_left
                        · intro hJ5_12
                          refine join_ (σ := Nat) 8 #[true, true, true, false, true, false, false, true, true, true, true, true, false, false, false, false, false] (fun s => [(57, .slice (some ⟨s, 0, none⟩) 1 1)]) (fun s w' => SNode w w.heap.size (bs + r) (!cs) s0.seen (some s) none none (.slice A8 s0.nums.length c8) (.slice A9 s0.yes.length c9) (.slice A10 s0.want.length c10) s0.nums s0.yes s0.want w') ?_ ?_
                          rotate_left
                          · intro hJ2
                            refine join_ (σ := Nat) 8 #[true, true, false, false, true, true, false, true, true, true, true, true, false, false, false, false, false] (fun s => [(60, .slice (some ⟨s, 0, none⟩) 1 1)]) (fun s w' => SNode w w.heap.size (bs + r) (!cs) s0.seen none (some s) none (.slice A8 s0.nums.length c8) (.slice A9 s0.yes.length c9) (.slice A10 s0.want.length c10) s0.nums s0.yes s0.want w') ?_ ?_
                            rotate_left
                            · intro hJ5
                              refine join_ (σ := Nat) 8 #[true, true, false, false, true, false, false, true, true, true, true, true, true, false, false, false, false] (fun s => [(67, .slice (some ⟨s, 0, none⟩) 1 1)]) (fun s w' => SNode w w.heap.size (bs + r) (!cs) s0.seen none none (some s) (.slice A8 s0.nums.length c8) (.slice A9 s0.yes.length c9) (.slice A10 s0.want.length c10) s0.nums s0.yes s0.want w') ?_ ?_
                              rotate_left
                              · intro hJ12
                                refine three_ (i := 2) (j := 5) (k := 12) (Ni := some 57) (Nj := some 60) (Nk := some 67) #[true, true, true, false, true, false, false, true, true, true, true, true, false, false, false, false, false] #[true, true, false, false, true, true, false, true, true, true, true, true, false, false, false, false, false] #[true, true, false, false, true, false, false, true, true, true, true, true, true, false, false, false, false] rfl rfl rfl rfl rfl rfl (by kernel_rfl) (by decide) (by decide) (by decide) (fun K hK => ?_) (fun K hK => ?_) (fun K hK => ?_)
                                · skip
                                  refine value_ (w1 := ?_) (v := ?_) (by rfl) rfl ?_ ?_
                                  rotate_left 2
                                  · go_simp
                                    constructor
                                    · rfl
                                    · rfl
                                  have hN1 := hN.alloc57
                                  refine hK.out _ _ ((hN1.look HWF.out HCS.out)) (fun hHeld => ?_)
                                  clear hK K
                                  refine norm_ (a' := ?_) ?_ ?_
                                  rotate_left
                                  · show Act.put _ (some 57) _ = _
                                    simp only [Act.put, List.setIfInBounds_toArray, List.set_cons_zero, List.set_cons_succ, i64_w, i32_w]
                                    rfl
                                  exact norm_ (by first | (simp only [putAll, Act.put, List.setIfInBounds_toArray, List.set_cons_zero, List.set_cons_succ]; done) | (simp only [putAll, Act.put, List.setIfInBounds_toArray, List.set_cons_zero, List.set_cons_succ]; rfl)) (hJ2 _ _ hN1)
                                · skip
                                  refine value_ (w1 := ?_) (v := ?_) (by rfl) rfl ?_ ?_
                                  rotate_left 2
                                  · go_simp
                                    constructor
                                    · rfl
                                    · rfl
                                  have hN1 := hN.alloc60
                                  refine hK.out _ _ ((hN1.look HWF.out HCS.out)) (fun hHeld => ?_)
                                  clear hK K
                                  refine norm_ (a' := ?_) ?_ ?_
                                  rotate_left
                                  · show Act.put _ (some 60) _ = _
                                    simp only [Act.put, List.setIfInBounds_toArray, List.set_cons_zero, List.set_cons_succ, i64_w, i32_w]
                                    rfl
                                  exact norm_ (by first | (simp only [putAll, Act.put, List.setIfInBounds_toArray, List.set_cons_zero, List.set_cons_succ]; done) | (simp only [putAll, Act.put, List.setIfInBounds_toArray, List.set_cons_zero, List.set_cons_succ]; rfl)) (hJ5 _ _ hN1)
                                · skip
                                  refine value_ (w1 := ?_) (v := ?_) (by rfl) rfl ?_ ?_
                                  rotate_left 2
                                  · go_simp
                                    constructor
                                    · rfl
                                    · rfl
                                  have hN1 := hN.alloc67
                                  refine hK.out _ _ ((hN1.look HWF.out HCS.out)) (fun hHeld => ?_)
                                  clear hK K
                                  refine norm_ (a' := ?_) ?_ ?_
                                  rotate_left
                                  · show Act.put _ (some 67) _ = _
                                    simp only [Act.put, List.setIfInBounds_toArray, List.set_cons_zero, List.set_cons_succ, i64_w, i32_w]
                                    rfl
                                  exact norm_ (by first | (simp only [putAll, Act.put, List.setIfInBounds_toArray, List.set_cons_zero, List.set_cons_succ]; done) | (simp only [putAll, Act.put, List.setIfInBounds_toArray, List.set_cons_zero, List.set_cons_succ]; rfl)) (hJ12 _ _ hN1)
                              · skip
                                rintro g67 w' hN
                                have hHeld := hN.look HWF.out HCS.out
                                refine norm_ (a' := ?_) ?_ ?_
                                rotate_left
                                · simp only [putAll, Act.put, List.setIfInBounds_toArray, List.set_cons_zero, List.set_cons_succ]
                                  rfl
                                refine two_ (i := 2) (j := 5) (Ni := some 57) (Nj := some 60) #[true, true, true, false, true, false, false, true, true, true, true, true, true, false, false, false, false] #[true, true, false, false, true, true, false, true, true, true, true, true, true, false, false, false, false] rfl rfl rfl rfl (by kernel_rfl) (by decide) (by decide) (fun K hK => ?_) (fun K hK => ?_)
                                · skip
                                  refine value_ (w1 := ?_) (v := ?_) (by rfl) rfl ?_ ?_
                                  rotate_left 2
                                  · go_simp
                                    constructor
                                    · rfl
                                    · rfl
                                  have hN1 := hN.alloc57
                                  refine hK.out _ _ ((hN1.look HWF.out HCS.out)) (fun hHeld => ?_)
                                  clear hK K
                                  refine norm_ (a' := ?_) ?_ ?_
                                  rotate_left
                                  · show Act.put _ (some 57) _ = _
                                    simp only [Act.put, List.setIfInBounds_toArray, List.set_cons_zero, List.set_cons_succ, i64_w, i32_w]
                                    rfl
                                  exact norm_ (by first | (simp only [putAll, Act.put, List.setIfInBounds_toArray, List.set_cons_zero, List.set_cons_succ]; done) | (simp only [putAll, Act.put, List.setIfInBounds_toArray, List.set_cons_zero, List.set_cons_succ]; rfl)) (hJ2_12 (_, g67) _ hN1)
                                · skip
                                  refine value_ (w1 := ?_) (v := ?_) (by rfl) rfl ?_ ?_
                                  rotate_left 2
                                  · go_simp
                                    constructor
                                    · rfl
                                    · rfl
                                  have hN1 := hN.alloc60
                                  refine hK.out _ _ ((hN1.look HWF.out HCS.out)) (fun hHeld => ?_)
                                  clear hK K
                                  refine norm_ (a' := ?_) ?_ ?_
                                  rotate_left
                                  · show Act.put _ (some 60) _ = _
                                    simp only [Act.put, List.setIfInBounds_toArray, List.set_cons_zero, List.set_cons_succ, i64_w, i32_w]
                                    rfl
                                  exact norm_ (by first | (simp only [putAll, Act.put, List.setIfInBounds_toArray, List.set_cons_zero, List.set_cons_succ]; done) | (simp only [putAll, Act.put, List.setIfInBounds_toArray, List.set_cons_zero, List.set_cons_succ]; rfl)) (hJ5_12 (_, g67) _ hN1)
                            · skip
                              rintro g60 w' hN
                              have hHeld := hN.look HWF.out HCS.out
                              refine norm_ (a' := ?_) ?_ ?_
                              rotate_left
                              · simp only [putAll, Act.put, List.setIfInBounds_toArray, List.set_cons_zero, List.set_cons_succ]
                                rfl
                              refine two_ (i := 2) (j := 12) (Ni := some 57) (Nj := some 67) #[true, true, true, false, true, true, false, true, true, true, true, true, false, false, false, false, false] #[true, true, false, false, true, true, false, true, true, true, true, true, true, false, false, false, false] rfl rfl rfl rfl (by kernel_rfl) (by decide) (by decide) (fun K hK => ?_) (fun K hK => ?_)
                              · skip
                                refine value_ (w1 := ?_) (v := ?_) (by rfl) rfl ?_ ?_
                                rotate_left 2
                                · go_simp
                                  constructor
                                  · rfl
                                  · rfl
                                have hN1 := hN.alloc57
                                refine hK.out _ _ ((hN1.look HWF.out HCS.out)) (fun hHeld => ?_)
                                clear hK K
                                refine norm_ (a' := ?_) ?_ ?_
                                rotate_left
                                · show Act.put _ (some 57) _ = _
                                  simp only [Act.put, List.setIfInBounds_toArray, List.set_cons_zero, List.set_cons_succ, i64_w, i32_w]
                                  rfl
                                exact norm_ (by first | (simp only [putAll, Act.put, List.setIfInBounds_toArray, List.set_cons_zero, List.set_cons_succ]; done) | (simp only [putAll, Act.put, List.setIfInBounds_toArray, List.set_cons_zero, List.set_cons_succ]; rfl)) (hJ2_5 (_, g60) _ hN1)
                              · skip
                                refine value_ (w1 := ?_) (v := ?_) (by rfl) rfl ?_ ?_
                                rotate_left 2
                                · go_simp
                                  constructor
                                  · rfl
                                  · rfl
                                have hN1 := hN.alloc67
                                refine hK.out _ _ ((hN1.look HWF.out HCS.out)) (fun hHeld => ?_)
                                clear hK K
                                refine norm_ (a' := ?_) ?_ ?_
                                rotate_left
                                · show Act.put _ (some 67) _ = _
                                  simp only [Act.put, List.setIfInBounds_toArray, List.set_cons_zero, List.set_cons_succ, i64_w, i32_w]
                                  rfl
                                exact norm_ (by first | (simp only [putAll, Act.put, List.setIfInBounds_toArray, List.set_cons_zero, List.set_cons_succ]; done) | (simp only [putAll, Act.put, List.setIfInBounds_toArray, List.set_cons_zero, List.set_cons_succ]; rfl)) (hJ5_12 (g60, _) _ hN1)
                          · skip
                            rintro g57 w' hN
                            have hHeld := hN.look HWF.out HCS.out
                            refine norm_ (a' := ?_) ?_ ?_
                            rotate_left
                            · simp only [putAll, Act.put, List.setIfInBounds_toArray, List.set_cons_zero, List.set_cons_succ]
                              rfl
                            refine three_ (i := 3) (j := 5) (k := 12) (Ni := some 58) (Nj := some 60) (Nk := some 67) #[true, true, true, true, true, false, false, true, true, true, true, true, false, false, false, false, false] #[true, true, true, false, true, true, false, true, true, true, true, true, false, false, false, false, false] #[true, true, true, false, true, false, false, true, true, true, true, true, true, false, false, false, false] rfl rfl rfl rfl rfl rfl (by kernel_rfl) (by decide) (by decide) (by decide) (fun K hK => ?_) (fun K hK => ?_) (fun K hK => ?_)
                            · skip
                              refine SNode.step58 hN (by rfl) (.tmp 55) (.tmp 57) rfl HL8.out rfl rfl ?_
                              intro v8n w1 hN1
                              refine hK.out _ _ ((hN1.look HWF.out HCS.out)) (fun hHeld => ?_)
                              clear hK K
                              refine norm_ (a' := ?_) ?_ ?_
                              rotate_left
                              · show Act.put _ (some 58) _ = _
                                simp only [Act.put, List.setIfInBounds_toArray, List.set_cons_zero, List.set_cons_succ, i64_w, i32_w]
                                rfl
                              exact norm_ (by first | (simp only [putAll, Act.put, List.setIfInBounds_toArray, List.set_cons_zero, List.set_cons_succ]; done) | (simp only [putAll, Act.put, List.setIfInBounds_toArray, List.set_cons_zero, List.set_cons_succ]; rfl)) (hJ2_3 (g57, v8n) _ hN1)
                            · skip
                              refine value_ (w1 := ?_) (v := ?_) (by rfl) rfl ?_ ?_
                              rotate_left 2
                              · go_simp
                                constructor
                                · rfl
                                · rfl
                              have hN1 := hN.alloc60
                              refine hK.out _ _ ((hN1.look HWF.out HCS.out)) (fun hHeld => ?_)
                              clear hK K
                              refine norm_ (a' := ?_) ?_ ?_
                              rotate_left
                              · show Act.put _ (some 60) _ = _
                                simp only [Act.put, List.setIfInBounds_toArray, List.set_cons_zero, List.set_cons_succ, i64_w, i32_w]
                                rfl
                              exact norm_ (by first | (simp only [putAll, Act.put, List.setIfInBounds_toArray, List.set_cons_zero, List.set_cons_succ]; done) | (simp only [putAll, Act.put, List.setIfInBounds_toArray, List.set_cons_zero, List.set_cons_succ]; rfl)) (hJ2_5 (g57, _) _ hN1)
                            · skip
                              refine value_ (w1 := ?_) (v := ?_) (by rfl) rfl ?_ ?_
                              rotate_left 2
                              · go_simp
                                constructor
                                · rfl
                                · rfl
                              have hN1 := hN.alloc67
                              refine hK.out _ _ ((hN1.look HWF.out HCS.out)) (fun hHeld => ?_)
                              clear hK K
                              refine norm_ (a' := ?_) ?_ ?_
                              rotate_left
                              · show Act.put _ (some 67) _ = _
                                simp only [Act.put, List.setIfInBounds_toArray, List.set_cons_zero, List.set_cons_succ, i64_w, i32_w]
                                rfl
                              exact norm_ (by first | (simp only [putAll, Act.put, List.setIfInBounds_toArray, List.set_cons_zero, List.set_cons_succ]; done) | (simp only [putAll, Act.put, List.setIfInBounds_toArray, List.set_cons_zero, List.set_cons_succ]; rfl)) (hJ2_12 (g57, _) _ hN1)
                        · skip
                          rintro ⟨g60, g67⟩ w' hN
                          have hHeld := hN.look HWF.out HCS.out
                          refine norm_ (a' := ?_) ?_ ?_
                          rotate_left
                          · simp only [putAll, Act.put, List.setIfInBounds_toArray, List.set_cons_zero, List.set_cons_succ]
                            rfl
                          refine one_ (i := 2) (N := some 57) #[true, true, true, false, true, true, false, true, true, true, true, true, true, false, false, false, false] rfl rfl (by kernel_rfl) (by decide) (fun K hK => ?_)
                          refine value_ (w1 := ?_) (v := ?_) (by rfl) rfl ?_ ?_
                          rotate_left 2
                          · go_simp
                            constructor
                            · rfl
                            · rfl
                          have hN1 := hN.alloc57
                          refine hK.out _ _ ((hN1.look HWF.out HCS.out)) (fun hHeld => ?_)
                          clear hK K
                          refine norm_ (a' := ?_) ?_ ?_
                          rotate_left
                          · show Act.put _ (some 57) _ = _
                            simp only [Act.put, List.setIfInBounds_toArray, List.set_cons_zero, List.set_cons_succ, i64_w, i32_w]
                            rfl
                          exact norm_ (by first | (simp only [putAll, Act.put, List.setIfInBounds_toArray, List.set_cons_zero, List.set_cons_succ]; done) | (simp only [putAll, Act.put, List.setIfInBounds_toArray, List.set_cons_zero, List.set_cons_succ]; rfl)) (hJ2_5_12 (_, g60, g67) _ hN1)
                      · skip
                        rintro ⟨g57, g67⟩ w' hN
                        have hHeld := hN.look HWF.out HCS.out
                        refine norm_ (a' := ?_) ?_ ?_
                        rotate_left
                        · simp only [putAll, Act.put, List.setIfInBounds_toArray, List.set_cons_zero, List.set_cons_succ]
                          rfl
                        refine two_ (i := 3) (j := 5) (Ni := some 58) (Nj := some 60) #[true, true, true, true, true, false, false, true, true, true, true, true, true, false, false, false, false] #[true, true, true, false, true, true, false, true, true, true, true, true, true, false, false, false, false] rfl rfl rfl rfl (by kernel_rfl) (by decide) (by decide) (fun K hK => ?_) (fun K hK => ?_)
                        · skip
                          refine SNode.step58 hN (by rfl) (.tmp 55) (.tmp 57) rfl HL8.out rfl rfl ?_
                          intro v8n w1 hN1
                          refine hK.out _ _ ((hN1.look HWF.out HCS.out)) (fun hHeld => ?_)
                          clear hK K
                          refine norm_ (a' := ?_) ?_ ?_
                          rotate_left
                          · show Act.put _ (some 58) _ = _
                            simp only [Act.put, List.setIfInBounds_toArray, List.set_cons_zero, List.set_cons_succ, i64_w, i32_w]
                            rfl
                          exact norm_ (by first | (simp only [putAll, Act.put, List.setIfInBounds_toArray, List.set_cons_zero, List.set_cons_succ]; done) | (simp only [putAll, Act.put, List.setIfInBounds_toArray, List.set_cons_zero, List.set_cons_succ]; rfl)) (hJ2_3_12 (g57, v8n, g67) _ hN1)
                        · skip
                          refine value_ (w1 := ?_) (v := ?_) (by rfl) rfl ?_ ?_
                          rotate_left 2
                          · go_simp
                            constructor
                            · rfl
                            · rfl
                          have hN1 := hN.alloc60
                          refine hK.out _ _ ((hN1.look HWF.out HCS.out)) (fun hHeld => ?_)
                          clear hK K
                          refine norm_ (a' := ?_) ?_ ?_
                          rotate_left
                          · show Act.put _ (some 60) _ = _
                            simp only [Act.put, List.setIfInBounds_toArray, List.set_cons_zero, List.set_cons_succ, i64_w, i32_w]
                            rfl
                          exact norm_ (by first | (simp only [putAll, Act.put, List.setIfInBounds_toArray, List.set_cons_zero, List.set_cons_succ]; done) | (simp only [putAll, Act.put, List.setIfInBounds_toArray, List.set_cons_zero, List.set_cons_succ]; rfl)) (hJ2_5_12 (g57, _, g67) _ hN1)
                    · skip
                      rintro ⟨g57, g60⟩ w' hN
                      have hHeld := hN.look HWF.out HCS.out
                      refine norm_ (a' := ?_) ?_ ?_
                      rotate_left
                      · simp only [putAll, Act.put, List.setIfInBounds_toArray, List.set_cons_zero, List.set_cons_succ]
                        rfl
                      refine two_ (i := 3) (j := 12) (Ni := some 58) (Nj := some 67) #[true, true, true, true, true, true, false, true, true, true, true, true, false, false, false, false, false] #[true, true, true, false, true, true, false, true, true, true, true, true, true, false, false, false, false] rfl rfl rfl rfl (by kernel_rfl) (by decide) (by decide) (fun K hK => ?_) (fun K hK => ?_)
                      · skip
                        refine SNode.step58 hN (by rfl) (.tmp 55) (.tmp 57) rfl HL8.out rfl rfl ?_
                        intro v8n w1 hN1
                        refine hK.out _ _ ((hN1.look HWF.out HCS.out)) (fun hHeld => ?_)
                        clear hK K
                        refine norm_ (a' := ?_) ?_ ?_
                        rotate_left
                        · show Act.put _ (some 58) _ = _
                          simp only [Act.put, List.setIfInBounds_toArray, List.set_cons_zero, List.set_cons_succ, i64_w, i32_w]
                          rfl
                        exact norm_ (by first | (simp only [putAll, Act.put, List.setIfInBounds_toArray, List.set_cons_zero, List.set_cons_succ]; done) | (simp only [putAll, Act.put, List.setIfInBounds_toArray, List.set_cons_zero, List.set_cons_succ]; rfl)) (hJ2_3_5 (g57, v8n, g60) _ hN1)
                      · skip
                        refine value_ (w1 := ?_) (v := ?_) (by rfl) rfl ?_ ?_
                        rotate_left 2
                        · go_simp
                          constructor
                          · rfl
                          · rfl
                        have hN1 := hN.alloc67
                        refine hK.out _ _ ((hN1.look HWF.out HCS.out)) (fun hHeld => ?_)
                        clear hK K
                        refine norm_ (a' := ?_) ?_ ?_
                        rotate_left
                        · show Act.put _ (some 67) _ = _
                          simp only [Act.put, List.setIfInBounds_toArray, List.set_cons_zero, List.set_cons_succ, i64_w, i32_w]
                          rfl
                        exact norm_ (by first | (simp only [putAll, Act.put, List.setIfInBounds_toArray, List.set_cons_zero, List.set_cons_succ]; done) | (simp only [putAll, Act.put, List.setIfInBounds_toArray, List.set_cons_zero, List.set_cons_succ]; rfl)) (hJ2_5_12 (g57, g60, _) _ hN1)
                  · skip
                    rintro ⟨g57, v8n⟩ w' hN
                    have hHeld := hN.look HWF.out HCS.out
                    refine norm_ (a' := ?_) ?_ ?_
                    rotate_left
                    · simp only [putAll, Act.put, List.setIfInBounds_toArray, List.set_cons_zero, List.set_cons_succ]
                      rfl
                    refine two_ (i := 5) (j := 12) (Ni := some 60) (Nj := some 67) #[true, true, true, true, true, true, false, true, true, true, true, true, false, false, false, false, false] #[true, true, true, true, true, false, false, true, true, true, true, true, true, false, false, false, false] rfl rfl rfl rfl (by kernel_rfl) (by decide) (by decide) (fun K hK => ?_) (fun K hK => ?_)
                    · skip
                      refine value_ (w1 := ?_) (v := ?_) (by rfl) rfl ?_ ?_
                      rotate_left 2
                      · go_simp
                        constructor
                        · rfl
                        · rfl
                      have hN1 := hN.alloc60
                      refine hK.out _ _ ((hN1.look HWF.out HCS.out)) (fun hHeld => ?_)
                      clear hK K
                      refine norm_ (a' := ?_) ?_ ?_
                      rotate_left
                      · show Act.put _ (some 60) _ = _
                        simp only [Act.put, List.setIfInBounds_toArray, List.set_cons_zero, List.set_cons_succ, i64_w, i32_w]
                        rfl
                      exact norm_ (by first | (simp only [putAll, Act.put, List.setIfInBounds_toArray, List.set_cons_zero, List.set_cons_succ]; done) | (simp only [putAll, Act.put, List.setIfInBounds_toArray, List.set_cons_zero, List.set_cons_succ]; rfl)) (hJ2_3_5 (g57, v8n, _) _ hN1)
                    · skip
                      refine value_ (w1 := ?_) (v := ?_) (by rfl) rfl ?_ ?_
                      rotate_left 2
                      · go_simp
                        constructor
                        · rfl
                        · rfl
                      have hN1 := hN.alloc67
                      refine hK.out _ _ ((hN1.look HWF.out HCS.out)) (fun hHeld => ?_)
                      clear hK K
                      refine norm_ (a' := ?_) ?_ ?_
                      rotate_left
                      · show Act.put _ (some 67) _ = _
                        simp only [Act.put, List.setIfInBounds_toArray, List.set_cons_zero, List.set_cons_succ, i64_w, i32_w]
                        rfl
                      exact norm_ (by first | (simp only [putAll, Act.put, List.setIfInBounds_toArray, List.set_cons_zero, List.set_cons_succ]; done) | (simp only [putAll, Act.put, List.setIfInBounds_toArray, List.set_cons_zero, List.set_cons_succ]; rfl)) (hJ2_3_12 (g57, v8n, _) _ hN1)
                · skip
                  rintro ⟨g57, g60, g67⟩ w' hN
                  have hHeld := hN.look HWF.out HCS.out
                  refine norm_ (a' := ?_) ?_ ?_
                  rotate_left
                  · simp only [putAll, Act.put, List.setIfInBounds_toArray, List.set_cons_zero, List.set_cons_succ]
                    rfl
                  refine one_ (i := 3) (N := some 58) #[true, true, true, true, true, true, false, true, true, true, true, true, true, false, false, false, false] rfl rfl (by kernel_rfl) (by decide) (fun K hK => ?_)
                  refine SNode.step58 hN (by rfl) (.tmp 55) (.tmp 57) rfl HL8.out rfl rfl ?_
                  intro v8n w1 hN1
                  refine hK.out _ _ ((hN1.look HWF.out HCS.out)) (fun hHeld => ?_)
                  clear hK K
                  refine norm_ (a' := ?_) ?_ ?_
                  rotate_left
                  · show Act.put _ (some 58) _ = _
                    simp only [Act.put, List.setIfInBounds_toArray, List.set_cons_zero, List.set_cons_succ, i64_w, i32_w]
                    rfl
                  exact norm_ (by first | (simp only [putAll, Act.put, List.setIfInBounds_toArray, List.set_cons_zero, List.set_cons_succ]; done) | (simp only [putAll, Act.put, List.setIfInBounds_toArray, List.set_cons_zero, List.set_cons_succ]; rfl)) (hJ2_3_5_12 (g57, v8n, g60, g67) _ hN1)
              · skip
                rintro ⟨g57, v8n, g67⟩ w' hN
                have hHeld := hN.look HWF.out HCS.out
                refine norm_ (a' := ?_) ?_ ?_
                rotate_left
                · simp only [putAll, Act.put, List.setIfInBounds_toArray, List.set_cons_zero, List.set_cons_succ]
                  rfl
                refine one_ (i := 5) (N := some 60) #[true, true, true, true, true, true, false, true, true, true, true, true, true, false, false, false, false] rfl rfl (by kernel_rfl) (by decide) (fun K hK => ?_)
                refine value_ (w1 := ?_) (v := ?_) (by rfl) rfl ?_ ?_
                rotate_left 2
                · go_simp
                  constructor
                  · rfl
                  · rfl
                have hN1 := hN.alloc60
                refine hK.out _ _ ((hN1.look HWF.out HCS.out)) (fun hHeld => ?_)
                clear hK K
                refine norm_ (a' := ?_) ?_ ?_
                rotate_left
                · show Act.put _ (some 60) _ = _
                  simp only [Act.put, List.setIfInBounds_toArray, List.set_cons_zero, List.set_cons_succ, i64_w, i32_w]
                  rfl
                exact norm_ (by first | (simp only [putAll, Act.put, List.setIfInBounds_toArray, List.set_cons_zero, List.set_cons_succ]; done) | (simp only [putAll, Act.put, List.setIfInBounds_toArray, List.set_cons_zero, List.set_cons_succ]; rfl)) (hJ2_3_5_12 (g57, v8n, _, g67) _ hN1)
            · skip
              rintro ⟨g57, v8n, g60⟩ w' hN
              have hHeld := hN.look HWF.out HCS.out
              refine norm_ (a' := ?_) ?_ ?_
              rotate_left
              · simp only [putAll, Act.put, List.setIfInBounds_toArray, List.set_cons_zero, List.set_cons_succ]
                rfl
              refine two_ (i := 6) (j := 12) (Ni := some 61) (Nj := some 67) #[true, true, true, true, true, true, true, true, true, true, true, true, false, false, false, false, false] #[true, true, true, true, true, true, false, true, true, true, true, true, true, false, false, false, false] rfl rfl rfl rfl (by kernel_rfl) (by decide) (by decide) (fun K hK => ?_) (fun K hK => ?_)
              · skip
                refine SNode.step61 hN (by rfl) (.tmp 59) (.tmp 60) rfl HL9.out rfl rfl ?_
                intro v9n w1 hN1
                refine hK.out _ _ ((hN1.look HWF.out HCS.out)) (fun hHeld => ?_)
                clear hK K
                refine norm_ (a' := ?_) ?_ ?_
                rotate_left
                · show Act.put _ (some 61) _ = _
                  simp only [Act.put, List.setIfInBounds_toArray, List.set_cons_zero, List.set_cons_succ, i64_w, i32_w]
                  rfl
                exact norm_ (by first | (simp only [putAll, Act.put, List.setIfInBounds_toArray, List.set_cons_zero, List.set_cons_succ]; done) | (simp only [putAll, Act.put, List.setIfInBounds_toArray, List.set_cons_zero, List.set_cons_succ]; rfl)) (hJ2_3_5_6 (g57, v8n, g60, v9n) _ hN1)
              · skip
                refine value_ (w1 := ?_) (v := ?_) (by rfl) rfl ?_ ?_
                rotate_left 2
                · go_simp
                  constructor
                  · rfl
                  · rfl
                have hN1 := hN.alloc67
                refine hK.out _ _ ((hN1.look HWF.out HCS.out)) (fun hHeld => ?_)
                clear hK K
                refine norm_ (a' := ?_) ?_ ?_
                rotate_left
                · show Act.put _ (some 67) _ = _
                  simp only [Act.put, List.setIfInBounds_toArray, List.set_cons_zero, List.set_cons_succ, i64_w, i32_w]
                  rfl
                exact norm_ (by first | (simp only [putAll, Act.put, List.setIfInBounds_toArray, List.set_cons_zero, List.set_cons_succ]; done) | (simp only [putAll, Act.put, List.setIfInBounds_toArray, List.set_cons_zero, List.set_cons_succ]; rfl)) (hJ2_3_5_12 (g57, v8n, g60, _) _ hN1)
          · skip
            rintro ⟨g57, v8n, g60, g67⟩ w' hN
            have hHeld := hN.look HWF.out HCS.out
            refine norm_ (a' := ?_) ?_ ?_
            rotate_left
            · simp only [putAll, Act.put, List.setIfInBounds_toArray, List.set_cons_zero, List.set_cons_succ]
              rfl
            refine one_ (i := 6) (N := some 61) #[true, true, true, true, true, true, true, true, true, true, true, true, true, false, false, false, false] rfl rfl (by kernel_rfl) (by decide) (fun K hK => ?_)
            refine SNode.step61 hN (by rfl) (.tmp 59) (.tmp 60) rfl HL9.out rfl rfl ?_
            intro v9n w1 hN1
            refine hK.out _ _ ((hN1.look HWF.out HCS.out)) (fun hHeld => ?_)
            clear hK K
            refine norm_ (a' := ?_) ?_ ?_
            rotate_left
            · show Act.put _ (some 61) _ = _
              simp only [Act.put, List.setIfInBounds_toArray, List.set_cons_zero, List.set_cons_succ, i64_w, i32_w]
              rfl
            exact norm_ (by first | (simp only [putAll, Act.put, List.setIfInBounds_toArray, List.set_cons_zero, List.set_cons_succ]; done) | (simp only [putAll, Act.put, List.setIfInBounds_toArray, List.set_cons_zero, List.set_cons_succ]; rfl)) (hJ2_3_5_6_12 (g57, v8n, g60, v9n, g67) _ hN1)
        · skip
          rintro ⟨g57, v8n, g60, v9n⟩ w' hN
          have hHeld := hN.look HWF.out HCS.out
          refine norm_ (a' := ?_) ?_ ?_
          rotate_left
          · simp only [putAll, Act.put, List.setIfInBounds_toArray, List.set_cons_zero, List.set_cons_succ]
            rfl
          refine one_ (i := 12) (N := some 67) #[true, true, true, true, true, true, true, true, true, true, true, true, true, false, false, false, false] rfl rfl (by kernel_rfl) (by decide) (fun K hK => ?_)
          refine value_ (w1 := ?_) (v := ?_) (by rfl) rfl ?_ ?_
          rotate_left 2
          · go_simp
            constructor
            · rfl
            · rfl
          have hN1 := hN.alloc67
          refine hK.out _ _ ((hN1.look HWF.out HCS.out)) (fun hHeld => ?_)
          clear hK K
          refine norm_ (a' := ?_) ?_ ?_
          rotate_left
          · show Act.put _ (some 67) _ = _
            simp only [Act.put, List.setIfInBounds_toArray, List.set_cons_zero, List.set_cons_succ, i64_w, i32_w]
            rfl
          exact norm_ (by first | (simp only [putAll, Act.put, List.setIfInBounds_toArray, List.set_cons_zero, List.set_cons_succ]; done) | (simp only [putAll, Act.put, List.setIfInBounds_toArray, List.set_cons_zero, List.set_cons_succ]; rfl)) (hJ2_3_5_6_12 (g57, v8n, g60, v9n, _) _ hN1)
      rintro ⟨g57, v8n, g60, v9n, g67⟩ w' hN
      have hHeld := hN.look HWF.out HCS.out
      refine norm_ (a' := ?_) ?_ ?_
      rotate_left
      · simp only [putAll, Act.put, List.setIfInBounds_toArray, List.set_cons_zero, List.set_cons_succ]
        rfl
      refine one_ (i := 13) (N := some 68) #[true, true, true, true, true, true, true, true, true, true, true, true, true, true, false, false, false] rfl rfl (by kernel_rfl) (by decide) (fun K hK => ?_)
      refine SNode.step68 hN rfl (by rfl) (.tmp 62) (.tmp 67) rfl HL10.out rfl rfl ?_
      intro v10n w1 hN1
      refine hK.out _ _ ((hN1.look HWF.out HCS.out)) (fun hHeld => ?_)
      clear hK K
      refine norm_ (a' := ?_) ?_ ?_
      rotate_left
      · show Act.put _ (some 68) _ = _
        simp only [Act.put, List.setIfInBounds_toArray, List.set_cons_zero, List.set_cons_succ, i64_w, i32_w]
        rfl
      refine pure_ (i := 14) (N := some 8) (v := ?_) (a' := ?_) #[true, true, true, true, true, true, true, true, true, true, true, true, true, true, true, false, false] rfl rfl (by kernel_rfl) (fun _ _ _ h => h) (Or.inl ⟨by rfl, ?_⟩) ?_ ?_
      rotate_left
      · intro w'
        go_simp
        with_reducible rfl
      rotate_left
      · simp only [Act.put, List.setIfInBounds_toArray, List.set_cons_zero, List.set_cons_succ, i64_w, i32_w]
        rfl
      refine pure_ (i := 15) (N := some 9) (v := ?_) (a' := ?_) #[true, true, true, true, true, true, true, true, true, true, true, true, true, true, true, true, false] rfl rfl (by kernel_rfl) (fun _ _ _ h => h) (Or.inl ⟨by rfl, ?_⟩) ?_ ?_
      rotate_left
      · intro w'
        go_simp
        with_reducible rfl
      rotate_left
      · simp only [Act.put, List.setIfInBounds_toArray, List.set_cons_zero, List.set_cons_succ, i64_w, i32_w]
        rfl
      refine pure_ (i := 16) (N := some 10) (v := ?_) (a' := ?_) #[true, true, true, true, true, true, true, true, true, true, true, true, true, true, true, true, true] rfl rfl (by kernel_rfl) (fun _ _ _ h => h) (Or.inl ⟨by rfl, ?_⟩) ?_ ?_
      rotate_left
      · intro w'
        go_simp
        with_reducible rfl
      rotate_left
      · simp only [Act.put, List.setIfInBounds_toArray, List.set_cons_zero, List.set_cons_succ, i64_w, i32_w]
        rfl
      refine done_ (by kernel_rfl) ?_
      obtain ⟨w18, hrun, hN18⟩ := hN1.put (Nat.le_refl _) HWF.out
      rw [← HCS.out] at hN18
      have HN18 : Aside0 (SNode w w.heap.size 0 false (runS win bs (l2.take (k + 1))).seen none none none v8n v9n v10n (runS win bs (l2.take (k + 1))).nums (runS win bs (l2.take (k + 1))).yes (runS win bs (l2.take (k + 1))).want w18) := ⟨by rw [HST2.out]; exact hN18.re 0 false⟩
      clear hN18 hN1 hN hHeld
      go_wp2
      go_roundw
      case rel => exact ⟨k + 1, by omega, by go_num, HN18⟩
      case measure => simp [intOf]; omega
    · have hkl : l2.take k = l2 := List.take_of_length_le (by omega)
      rw [hkl] at hrel
      have hfo := foldS win bs l2 ⟨[], [], [], []⟩
      have htell := tell_span 281474976710655 win bs (by omega) (by omega) l2 ⟨[], [], [], []⟩ 0 (fun _ => false) (fun x => by simp) (by omega)
      obtain ⟨s0, hs0⟩ : ∃ s0, s0 = runS win bs l2 := ⟨_, rfl⟩
      rw [← hs0] at hrel
      have hs1 : s0 = l2.foldl (stepS win bs) ⟨[], [], [], []⟩ := hs0
      rw [← hs1] at hfo htell
      clear hs0 hs1
      have hn1 : s0.nums.length = l2.length := by rw [hfo.1]; simp
      have hn2 : s0.yes.length = l2.length := by rw [hfo.2.1]; simp
      have hn3 : s0.want.length = l2.length := by rw [hfo.2.2]; simp
      have hpos : ∀ p ∈ s0.nums.zip s0.yes, 0 ≤ p.1 := by
        intro p hp
        have h := (List.of_mem_zip (a := p.1) (b := p.2) hp).1
        rw [hfo.1] at h
        simp only [List.nil_append, List.mem_map] at h
        obtain ⟨x, _, hx⟩ := h
        have := wi_range win x (by omega)
        omega
      have HU : Aside0 (U64L s0.nums) := ⟨by
        intro y hy
        rw [hfo.1] at hy
        simp only [List.nil_append, List.mem_map] at hy
        obtain ⟨x, _, rfl⟩ := hy
        have := wi_range win x (by omega)
        exact ⟨by omega, by omega⟩⟩
      have hzip : s0.nums.zip s0.yes = l2.map fun x => (bs + wi win x, true) := by
        rw [hfo.1, hfo.2.1]
        simp only [List.nil_append]
        rw [List.zip_map']
      have HT : Aside0 ((runD 281474976710655 win (s0.nums.zip s0.yes)).out = s0.want) := ⟨by
        rw [runD_tell _ win (by omega) HB3.out _ hpos, hzip, htell]; simp⟩
      clear hpos hzip htell hfo
      have HLY : Aside0 (s0.nums.length = s0.yes.length) := ⟨by rw [hn1, hn2]⟩
      have HLW : Aside0 (s0.want.length = s0.nums.length) := ⟨by rw [hn1, hn3]⟩
      have b7 : s0.nums.length ≤ 300 := by rw [hn1]; omega
      clear hn1 hn2 hn3 hkl
      obtain ⟨A8, c8, e8⟩ := Kd.R_slice hrel.out.r8
      subst e8
      obtain ⟨A9, c9, e9⟩ := Kd.R_slice hrel.out.r9
      subst e9
      obtain ⟨A10, c10, e10⟩ := Kd.R_slice hrel.out.r10
      subst e10
      go_wp2_with fail
      refine (replay_any win 281474976710655 A8 A9 c8 c9 s0.nums s0.yes wr (by omega) (by omega) HB3.out (by omega) (by omega) HLY.out b7 HU.out (Kd.R_reads' hrel.out.r8).2.2 (Kd.R_reads' hrel.out.r9).2.2).mono ?_
      rintro e w3 ⟨v15, rfl, ho, hb⟩
      have HBB := Aside0.mk (below_then hrel.out.bel hrel.out.bel.size hb)
      have HO15 := Aside0.mk (show Kd.bool.R 4 w3 wr.heap.size (fun _ => True) v15 s0.want by rw [← HT.out]; exact ho)
      have HW10 := Aside0.mk (Kd.R_below hrel.out.r10 hb)
      clear ho hb hrel
      obtain ⟨A15, c15, e15⟩ := Kd.R_slice HO15.out
      subst e15
      have HR15 := Aside0.mk (Kd.R_reads' HO15.out).2.2
      have HR10 := Aside0.mk (Kd.R_reads' HW10.out).2.2
      have l9 : ((s0.want.length : Int) != (s0.nums.length : Int)) = false := by rw [HLW.out]; simp
      have b8 : s0.want.length ≤ 300 := by rw [HLW.out]; exact b7
      go_wp2
      go_loopw [84] (fun i wr => ∃ k : Nat, k ≤ s0.want.length ∧ i = .int .i64 k ∧ Drawn0 w3 wr) (fun i _ => s0.want.length - (intOf i).toNat)
      case atStart => exact ⟨0, Nat.zero_le _, rfl, Drawn0.refl _⟩
      case round =>
        obtain ⟨j, hj, rfl, ⟨nd, rfl⟩⟩ := hrel
        by_cases hlt2 : j < s0.want.length
        · have q1 : (0 : Int) ≤ (j : Int) := by omega
          have q2 : (j : Int) < (s0.want.length : Int) := by omega
          obtain ⟨ad9, e9, hx9⟩ := Kd.at_bool HR15.out j q1 q2
          cases e9
          obtain ⟨ad10, e10, hx10⟩ := Kd.at_bool HR10.out j q1 q2
          cases e10
          rw [Int.toNat_natCast] at hx9 hx10
          have q3 : ((rdOf false s0.want j) != (rdOf false s0.want j)) = false := by simp
          go_wp2
          go_quiet (fail)
          go_wp2
          go_roundw
          case rel => exact ⟨j + 1, by omega, by go_num, ⟨⟨_, rfl⟩⟩⟩
          case measure => simp [intOf]; omega
        · go_wp2
          go_ret
          exact ⟨rfl, pw_below_drewN HBB.out _⟩

end Go.Proofs.Ytklihfjchomkmaa

namespace Go.Proofs.Ytklihfjchomkmaa
open Go.RowKit Go.Proofs.YtklihfjchomkmaaW.PrintWords
theorem span_row (win bs : Int) (A2 : Option Addr) (c2 : Nat) (l2 : List Int) (w : World) (h0 : (Lit.int .i64 win).wf = true) (h1 : (Lit.int .u64 bs).wf = true)
    (_ : l2.length ≤ 9223372036854775807) (hr2 : Kd.C (Kd.int .i64) w A2 l2.length l2) (_ : l2.length ≤ c2) (_ : ∀ x ∈ l2, (Lit.int .i64 x).wf = true) :
    Calls Try.prog 6 #[.int .i64 win, .int .u64 bs, .slice A2 l2.length c2] w fun e w' => e = .returned (.bool true) ∧ Below w.heap.size w w' := by
  have k0 : -9223372036854775808 ≤ win ∧ win ≤ 9223372036854775807 := by simpa [Lit.wf, IntKind.min, IntKind.max, IntKind.signed, IntKind.bits] using h0
  have k1 : 0 ≤ bs ∧ bs ≤ 18446744073709551615 := by simpa [Lit.wf, IntKind.min, IntKind.max, IntKind.signed, IntKind.bits] using h1
  exact span_law win bs A2 c2 l2 w k0.1 k0.2 k1.1 hr2
end Go.Proofs.Ytklihfjchomkmaa
