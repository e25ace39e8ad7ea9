/-
  The thin package's Replay, walked: what it tells of numbers, one by one, is what a plain function over lists tells.
-/
import Derived.Test.YtklihfjchomkmaaCheck
import Derived.Test.YtklihfjchomkmaaPFnWindowx1
namespace Go.Proofs.Ytklihfjchomkmaa
open Go.RowKit Go.Proofs.YtklihfjchomkmaaW.PrintWords Go.Proofs.YtklihfjchomkmaaW.PrintLast Go.Proofs.YtklihfjchomkmaaW.PrintMore

/-- the detector's state: the greatest number, the mask, what was told -/
structure DSt where
  g : Int
  xs : List Int
  out : List Bool

def stepD (most win : Int) (s : DSt) (p : Int × Bool) : DSt :=
  if freshD s.g most win s.xs p.1 then (if p.2 then ⟨takeG s.g p.1, takeL s.g win s.xs p.1, s.out ++ [true]⟩ else ⟨s.g, s.xs, s.out ++ [true]⟩) else ⟨s.g, s.xs, s.out ++ [false]⟩
def runD (most win : Int) (ps : List (Int × Bool)) : DSt := ps.foldl (stepD most win) ⟨0, List.replicate ((win + 63) / 64).toNat 0, []⟩

/-- What has been done after k rounds. -/
structure RepRel (w : World) (l2 : List Int) (l3 : List Bool) (D M B : Nat) (most win : Int) (v : Value) (k : Nat) (wr : World) : Prop where
  det : DetAt wr D M B (runD most win ((l2.zip l3).take k)).g most win (runD most win ((l2.zip l3).take k)).xs
  out : Kd.bool.R 4 wr w.heap.size (fun _ => True) v (runD most win ((l2.zip l3).take k)).out
  bel : Below w.heap.size w wr
  base : w.heap.size ≤ D ∧ w.heap.size ≤ M ∧ w.heap.size ≤ B

theorem DetAt.grownR {W w1 : World} {D M B base : Nat} {g most win : Int} {xs : List Int} {ok : Nat → Prop} {v : Value} {ys : List Bool} (h : DetAt W D M B g most win xs) (hR : Kd.bool.R 4 W base ok v ys) (hg : W.grownBy w1 v.ownBlock) : DetAt w1 D M B g most win xs :=
  ⟨(hg.block D (ltB h.d) (Kd.R_ne hR h.d (by decide))).trans h.d, h.mask.move (hg.block M (ltB h.mask.m) (Kd.R_ne hR h.mask.m (by decide))) (hg.block B (ltB h.mask.b) (Kd.R_ne hR h.mask.b (by decide))), h.wm, h.mx, h.g0, h.gm⟩

theorem R_keepD {W w1 : World} {D M B base : Nat} {g most win : Int} {xs : List Int} {v : Value} {ys : List Bool} (h : DetAt W D M B g most win xs) (hR : Kd.bool.R 4 W base (fun _ => True) v ys) (hk : KeepD D B W w1) : Kd.bool.R 4 w1 base (fun _ => True) v ys := by
  have h1 := Kd.R_types hR h.d (by intro q hq; simp [Kd.bool, Kd.scalar] at hq; omega)
  have h2 := Kd.R_types h1 h.mask.b (by intro q hq; simp [Kd.bool, Kd.scalar] at hq; omega)
  exact Kd.R_mono (Kd.R_step h2 (fun k hk1 hk2 => hk.block k hk2 hk1.1.2 hk1.2)) (fun _ _ => trivial)

theorem KeepD.bel {D B base : Nat} {w a b : World} (h : Below base w a) (k : KeepD D B a b) (hb : base ≤ a.heap.size) (hD : base ≤ D) (hB : base ≤ B) : Below base w b :=
  h.trans ⟨k.os, k.tape, k.output, k.size, fun i hi => k.block i (by omega) (by omega) (by omega)⟩

theorem take_zip (l2 : List Int) (l3 : List Bool) (k : Nat) (hl : l2.length = l3.length) (hk : k < l2.length) : (l2.zip l3).take (k + 1) = (l2.zip l3).take k ++ [(rd l2 k, rdOf false l3 k)] := by
  have hz : k < (l2.zip l3).length := by rw [List.length_zip]; omega
  rw [List.take_succ_eq_append_getElem hz, List.getElem_zip]
  congr 3
  · rw [rd, Int.toNat_natCast, List.getD_eq_getElem?_getD, List.getElem?_eq_getElem hk]; rfl
  · rw [rdOf, Int.toNat_natCast, List.getD_eq_getElem?_getD, List.getElem?_eq_getElem (show k < l3.length by omega)]; rfl

theorem runD_step (most win : Int) (l2 : List Int) (l3 : List Bool) (k : Nat) (hl : l2.length = l3.length) (hk : k < l2.length) : runD most win ((l2.zip l3).take (k + 1)) = stepD most win (runD most win ((l2.zip l3).take k)) (rd l2 k, rdOf false l3 k) := by
  rw [take_zip l2 l3 k hl hk, runD, List.foldl_append]; rfl

/-- The round's end: what the detector is, and what was told, has gone one number on. -/
theorem RepRel.step {w W w1 : World} {l2 : List Int} {l3 : List Bool} {D M B : Nat} {most win : Int} {v v1 : Value} {k : Nat} (hl : l2.length = l3.length) (hk : k < l2.length) (hb : w.heap.size ≤ D ∧ w.heap.size ≤ M ∧ w.heap.size ≤ B) {s : DSt} {ys : List Bool}
    (hs : stepD most win (runD most win ((l2.zip l3).take k)) (rd l2 k, rdOf false l3 k) = s) (hd : DetAt W D M B s.g most win s.xs) (hR : Kd.bool.R 4 W w.heap.size (fun _ => True) v ys) (hg : W.grownBy w1 v.ownBlock)
    (ho : Kd.bool.R 4 w1 w.heap.size (fun _ => True) v1 s.out) (hbel : Below w.heap.size w w1) : RepRel w l2 l3 D M B most win v1 (k + 1) w1 := by
  have e := (runD_step most win l2 l3 k hl hk).trans hs
  refine ⟨?_, ?_, hbel, hb⟩
  · rw [e]; exact hd.grownR hR hg
  · rw [e]; exact ho

theorem nil46 (a : Addr) (w : World) : (nilAhead 348 78 (.pointer (some a)) "Check").run Try.prog w = .ok (some false) w := by kernel_rfl
theorem method43 (a : Addr) (w : World) : (method 348 78 (.pointer (some a)) "Check").run Try.prog w = .ok (43, .pointer (some a)) w := by kernel_rfl

theorem info4 : (Try.prog.info? 4).map (fun i => (i.zero, i.size, i.bytes)) = some (some (.bool false), 1, 1) := by kernel_rfl

theorem runD_len (most win : Int) (ps : List (Int × Bool)) : (runD most win ps).out.length = ps.length := by
  have key : ∀ (ps : List (Int × Bool)) (s : DSt), (ps.foldl (stepD most win) s).out.length = s.out.length + ps.length := by
    intro ps
    induction ps with
    | nil => intro s; simp
    | cons p ps ih =>
      intro s
      rw [List.foldl_cons, ih]
      have : (stepD most win s p).out.length = s.out.length + 1 := by unfold stepD; split <;> (try split) <;> simp
      rw [this, List.length_cons]; omega
  rw [runD, key]; simp

set_option maxRecDepth 100000 in
set_option maxHeartbeats 1000000 in
theorem replay_any (win most : Int) (A2 A3 : Option Addr) (c2 c3 : Nat) (l2 : List Int) (l3 : List Bool) (w : World) (h1 : 1 ≤ win) (h2 : win ≤ 500) (h3 : win % 64 ≤ 32) (h4 : win ≤ most) (h5 : most < 281474976710656)
    (hl : l2.length = l3.length) (hlen : l2.length ≤ 300) (hU : U64L l2)
    (hr2 : Kd.C (Kd.int .u64) w A2 l2.length l2) (hr3 : Kd.C Kd.bool w A3 l3.length l3) :
    Calls Try.prog 12 #[.int .i64 win, .int .u64 most, .slice A2 l2.length c2, .slice A3 l3.length c3] w fun e w' => ∃ v0_ : Value, e = .returned v0_ ∧ Kd.R Kd.bool 4 w' w.heap.size (fun _ => True) v0_ (runD most win (l2.zip l3)).out ∧ Below w.heap.size w w' := by
  have HR2 := Aside0.mk hr2
  have HR3 := Aside0.mk hr3
  have HL := Aside0.mk hl
  have HU := Aside0.mk hU
  clear hr2 hr3 hl hU
  go_enter Try.func12, Try.ntmps12
  go_wp2_with fail
  refine (new_any win most w h1 h2 h3 h4 h5).mono ?_
  rintro e w1 ⟨D, M, B, rfl, hD, hM, hB, hdet, hbel⟩
  have H0 : Aside0 (RepRel w l2 l3 D M B most win (.slice none 0 0) 0 w1) := ⟨⟨hdet, Kd.R_nil _ _ _ _ _, hbel, hD, hM, hB⟩⟩
  clear hdet hbel
  go_wp2
  go_loopw [10, 21] (fun v i wr => ∃ k : Nat, k ≤ l2.length ∧ i = .int .i64 k ∧ Aside0 (RepRel w l2 l3 D M B most win v k wr)) (fun _ i _ => l2.length - (intOf i).toNat)
  case atStart => exact ⟨0, Nat.zero_le _, rfl, H0⟩
  case round =>
    clear H0
    obtain ⟨k, hk, rfl, hr⟩ := hrel
    by_cases hlt : k < l2.length
    · have p102 : (0 : Int) ≤ (k : Int) := by omega
      have q102 : (k : Int) < (l2.length : Int) := by omega
      have q103 : (k : Int) < (l3.length : Int) := by have := HL.out; omega
      obtain ⟨ad102, e102, hx102⟩ := Kd.at_int HR2.out k p102 q102
      cases e102
      replace hx102 := (hr.out.bel.cell (World.block_lt_of_cell? w _ hx102)).trans hx102
      rw [Int.toNat_natCast] at hx102
      obtain ⟨ad103, e103, hx103⟩ := Kd.at_bool HR3.out k p102 q103
      cases e103
      have LX103 := Aside0.mk hx103
      clear hx103
      have nA := nil46 ⟨D, 0, none⟩
      have mT := method43 ⟨D, 0, none⟩
      have hn0 : 0 ≤ rd l2 k := by
        have h := HU.out (rd l2 k) (by rw [rd, Int.toNat_natCast, List.getD_eq_getElem?_getD, List.getElem?_eq_getElem hlt]; exact List.getElem_mem hlt)
        exact h.1
      obtain ⟨A10, c10, e10⟩ := Kd.R_slice hr.out.out
      subst e10
      have hlo : (runD most win ((l2.zip l3).take k)).out.length ≤ 300 := by rw [runD_len, List.length_take]; omega
      have HLO := Aside0.mk hlo
      clear hlo
      cases hf : freshD (runD most win ((l2.zip l3).take k)).g most win (runD most win ((l2.zip l3).take k)).xs (rd l2 k)
      · have HF := Aside0.mk hf
        clear hf
        have hstep : Aside0 (stepD most win (runD most win ((l2.zip l3).take k)) (rd l2 k, rdOf false l3 k) = ⟨(runD most win ((l2.zip l3).take k)).g, (runD most win ((l2.zip l3).take k)).xs, (runD most win ((l2.zip l3).take k)).out ++ [false]⟩) := ⟨by unfold stepD; rw [if_neg (by rw [HF.out]; decide)]⟩
        go_wp2_with fail
        refine (check_no D M B _ most win (rd l2 k) _ _ hr.out.det hn0 HF.out).mono ?_
        rintro e w2 ⟨rfl, hb2⟩
        have HB := Aside0.mk (below_then hr.out.bel hr.out.bel.size hb2)
        have HD := Aside0.mk (hr.out.det.below hb2)
        have HO := Aside0.mk (Kd.R_below hr.out.out hb2)
        clear hb2 LX103
        go_wp2_with ((with_reducible refine gate_builtin (b := .append) (xs := #[.tmp 47, .tmp 49]) rfl ?_); at_builtin; refine Kd.R_append Kd.bool (w0 := w) w.heap.size rfl (.tmp 47) (.tmp 49) 28 4 (.bool false) 1 rfl Try.underlying28 info4 rfl (by decide) (by omega) (.slice A10 (runD most win ((l2.zip l3).take k)).out.length c10) (runD most win ((l2.zip l3).take k)).out false [.bool false] (fun _ => True) (fun _ => False) rfl rfl ?aP (fun _ hk => hk.elim) ?aF ?aO ?aB ?aS ?aL ?_; (case aP => exact rfl); (case aB => exact HB.out); (case aF => exact (fun _ _ => trivial)); (case aO => exact HO.out); (case aS => exact HB.out.size); (case aL => have := HLO.out; omega); intro v1 w13 ho hb hg _; have HO13 := Aside0.mk ho; have HB13 := Aside0.mk hb; have HG13 := Aside0.mk hg; clear ho hb hg)
        go_roundw
        case rel => exact ⟨k + 1, by omega, by go_num, ⟨RepRel.step HL.out hlt hr.out.base hstep.out HD.out HO.out HG13.out HO13.out HB13.out⟩⟩
        case measure => simp [intOf]; omega
      · have HF := Aside0.mk hf
        clear hf
        go_wp2_with fail
        refine (check_yes D M B _ most win (rd l2 k) _ _ hr.out.det hn0 HF.out).mono ?_
        rintro e w2 ⟨a, b, rfl, hb2, ha2, hc2⟩
        have HB2 := Aside0.mk (below_then hr.out.bel hr.out.bel.size hb2)
        have HD2 := Aside0.mk (hr.out.det.below hb2)
        have HO2 := Aside0.mk (Kd.R_below hr.out.out hb2)
        have hx103 := (HB2.out.cell (World.block_lt_of_cell? w _ LX103.out)).trans LX103.out
        rw [Int.toNat_natCast] at hx103
        have HA2 := Aside0.mk ha2
        have HC2 := Aside0.mk hc2
        clear hb2 ha2 hc2 LX103
        cases hacc : rdOf false l3 k
        · have hstep : Aside0 (stepD most win (runD most win ((l2.zip l3).take k)) (rd l2 k, rdOf false l3 k) = ⟨(runD most win ((l2.zip l3).take k)).g, (runD most win ((l2.zip l3).take k)).xs, (runD most win ((l2.zip l3).take k)).out ++ [true]⟩) := ⟨by unfold stepD; rw [if_pos HF.out, if_neg (by simp [hacc])]⟩
          rw [hacc] at hx103
          have HAC := Aside0.mk hacc
          have HB := HB2
          have HD := HD2
          have HO := HO2
          clear hacc
          go_wp2_with ((with_reducible refine gate_builtin (b := .append) (xs := #[.tmp 47, .tmp 49]) rfl ?_); at_builtin; refine Kd.R_append Kd.bool (w0 := w) w.heap.size rfl (.tmp 47) (.tmp 49) 28 4 (.bool false) 1 rfl Try.underlying28 info4 rfl (by decide) (by omega) (.slice A10 (runD most win ((l2.zip l3).take k)).out.length c10) (runD most win ((l2.zip l3).take k)).out true [.bool true] (fun _ => True) (fun _ => False) rfl rfl ?aP (fun _ hk => hk.elim) ?aF ?aO ?aB ?aS ?aL ?_; (case aP => exact rfl); (case aB => exact HB.out); (case aF => exact (fun _ _ => trivial)); (case aO => exact HO.out); (case aS => exact HB.out.size); (case aL => have := HLO.out; omega); intro v1 w13 ho hb hg _; have HO13 := Aside0.mk ho; have HB13 := Aside0.mk hb; have HG13 := Aside0.mk hg; clear ho hb hg)
          go_roundw
          case rel => exact ⟨k + 1, by omega, by go_num, ⟨RepRel.step HL.out hlt hr.out.base hstep.out HD.out HO.out HG13.out HO13.out HB13.out⟩⟩
          case measure => simp [intOf]; omega
        · have hstep : Aside0 (stepD most win (runD most win ((l2.zip l3).take k)) (rd l2 k, rdOf false l3 k) = ⟨takeG (runD most win ((l2.zip l3).take k)).g (rd l2 k), takeL (runD most win ((l2.zip l3).take k)).g win (runD most win ((l2.zip l3).take k)).xs (rd l2 k), (runD most win ((l2.zip l3).take k)).out ++ [true]⟩) := ⟨by unfold stepD; rw [if_pos HF.out, if_pos hacc]⟩
          rw [hacc] at hx103
          have HAC := Aside0.mk hacc
          clear hacc
          go_wp2_with fail
          refine (take_any a b D M B _ most win (rd l2 k) _ _ HD2.out hn0 HF.out HA2.out HC2.out).mono ?_
          rintro e w3 ⟨bb, rfl, hd3, hk3⟩
          have HB := Aside0.mk (KeepD.bel HB2.out hk3 HB2.out.size hr.out.base.1 hr.out.base.2.2)
          have HD := Aside0.mk hd3
          have HO := Aside0.mk (R_keepD HD2.out HO2.out hk3)
          clear hd3 hk3 hx103
          go_wp2_with ((with_reducible refine gate_builtin (b := .append) (xs := #[.tmp 47, .tmp 49]) rfl ?_); at_builtin; refine Kd.R_append Kd.bool (w0 := w) w.heap.size rfl (.tmp 47) (.tmp 49) 28 4 (.bool false) 1 rfl Try.underlying28 info4 rfl (by decide) (by omega) (.slice A10 (runD most win ((l2.zip l3).take k)).out.length c10) (runD most win ((l2.zip l3).take k)).out true [.bool true] (fun _ => True) (fun _ => False) rfl rfl ?aP (fun _ hk => hk.elim) ?aF ?aO ?aB ?aS ?aL ?_; (case aP => exact rfl); (case aB => exact HB.out); (case aF => exact (fun _ _ => trivial)); (case aO => exact HO.out); (case aS => exact HB.out.size); (case aL => have := HLO.out; omega); intro v1 w13 ho hb hg _; have HO13 := Aside0.mk ho; have HB13 := Aside0.mk hb; have HG13 := Aside0.mk hg; clear ho hb hg)
          go_roundw
          case rel => exact ⟨k + 1, by omega, by go_num, ⟨RepRel.step HL.out hlt hr.out.base hstep.out HD.out HO.out HG13.out HO13.out HB13.out⟩⟩
          case measure => simp [intOf]; omega
    · go_wp2
      go_ret
      have e : (l2.zip l3).take k = l2.zip l3 := List.take_of_length_le (by rw [List.length_zip]; omega)
      have h := hr.out.out
      rw [e] at h
      exact ⟨_, rfl, h, hr.out.bel⟩
end Go.Proofs.Ytklihfjchomkmaa
