/-
  advanceCovered, walked.
-/
import Derived.Test.YtblmbbllfiigmaaDoorGrow
namespace Go.Proofs.YtblmbbllfiigmaaDoor
open Go.RowKit Go.Proofs.YtblmbbllfiigmaaDoorW.PrintWords Go.Proofs.YtblmbbllfiigmaaDoorW.PrintLast Go.Proofs.YtblmbbllfiigmaaDoorW.PrintMore

/-- How far the beginning reaches. -/
def advC (cov : Int) : List (Int × List Int) → Int
  | [] => cov
  | p :: r => if p.1 ≤ cov then advC (max cov (p.1 + (p.2.length : Int))) r else cov

theorem advC_drop (cov : Int) (ps : List (Int × List Int)) (k : Nat) (p : Int × List Int) (hp : ps[k]? = some p) : advC cov (ps.drop k) = if p.1 ≤ cov then advC (max cov (p.1 + (p.2.length : Int))) (ps.drop (k + 1)) else cov := by
  have hk := (List.getElem?_eq_some_iff.1 hp).1
  rw [List.drop_eq_getElem_cons hk, (List.getElem?_eq_some_iff.1 hp).2]
  rfl

structure AdvRel (w : World) (F : Nat) (v : Value) (rest : List Value) (base : Nat) (ps : List (Int × List Int)) (cv : Int) (wr : World) : Prop where
  fb : wr.heap[F]? = some (.cells (v :: .int .u32 cv :: rest).toArray 101)
  row : RowAt wr base v ps
  gr : w.grownBy wr (some F)

theorem RowAt.ne {w : World} {base : Nat} {v : Value} {ps : List (Int × List Int)} (h : RowAt w base v ps) {F : Nat} {l : Array Value} {t : TypeId} (hF : w.heap[F]? = some (.cells l t)) (ht : t ≠ 107) : v.ownBlock ≠ some F := by
  intro e
  obtain ⟨cells, ho, _⟩ := h.ex
  obtain ⟨c, hc⟩ := own_typed ho F e
  rw [hF] at hc
  injection hc with hc
  injection hc with _ h2
  exact ht h2

theorem RowAt.set {w : World} {base : Nat} {v : Value} {ps : List (Int × List Int)} (h : RowAt w base v ps) {F : Nat} {l : Array Value} {t : TypeId} (hF : w.heap[F]? = some (.cells l t)) (ht : t ≠ 107) (ht5 : t ≠ 5) (j : Nat) (u : Value) : RowAt (w.setCell ⟨F, j, none⟩ u) base v ps :=
  h.move (fun k hk => Below.heap_setCell w ⟨F, j, none⟩ u k (fun e => h.ne hF ht (by rw [hk, e]))) (fun b cells m hb => Below.heap_setCell w ⟨F, j, none⟩ u b (fun e => by
    have e2 : b = F := e
    rw [e2, hF] at hb
    injection hb with hb
    injection hb with _ h2
    exact ht5 h2))

set_option maxRecDepth 100000 in
set_option maxHeartbeats 1000000 in
theorem adv_any (F : Nat) (cov : Int) (rest : List Value) (v : Value) (base : Nat) (ps : List (Int × List Int)) (i : Nat) (w : World) (hr : RowAt w base v ps) (hi : i < ps.length) (hn : ps.length ≤ 1000000) (hsm : Small ps)
    (hF : w.heap[F]? = some (.cells (v :: .int .u32 cov :: rest).toArray 101)) (h0 : 0 ≤ cov) (h1 : cov < 4294967296) :
    Calls Tryd.prog 54 #[.pointer (some ⟨F, 0, none⟩), .int .i64 i] w fun e w' => e = .returned (.tuple #[]) ∧ AdvRel w F v rest base ps (advC cov (ps.drop i)) w' := by
  have hp : ps[i]? = some ps[i] := List.getElem?_eq_getElem hi
  obtain ⟨g, cap, A1, c1, rfl, a0, a1, hd⟩ := hr.get i _ hp
  generalize hpk : ps[i] = p at *
  obtain ⟨po, pl⟩ := p
  have hadv := advC_drop cov ps i (po, pl) hp
  have k0 : w.cell? ⟨F, 0, none⟩ = some (.slice (some ⟨g, 0, none⟩) ps.length cap) := cellB hF 0
  have k1 : w.cell? ⟨F, 1, none⟩ = some (.int .u32 cov) := cellB hF 1
  have p1 : (0 : Int) ≤ (i : Int) := by omega
  have p2 : (i : Int) < (ps.length : Int) := by omega
  have HR := Aside0.mk hr
  have HS := Aside0.mk hsm
  have HF := Aside0.mk hF
  have HN := Aside0.mk hn
  have HD := Aside0.mk hd
  have HADV := Aside0.mk hadv
  clear hr hsm hF hn hd hp hpk hadv
  by_cases hc : cov < po
  · have hcd : decide (cov < po) = true := decide_eq_true hc
    go_enter Tryd.func54, Tryd.ntmps54
    go_wp2_with fail
    go_quiet (fail)
    go_wp2
    refine bodyPost_ret (results_none rfl _ _ _) rfl ?_
    have hb := pw_below_drewN (Below.refl w.heap.size w) nq
    refine ⟨rfl, ?_, HR.out.below hb, grown_of_below hb _⟩
    rw [HADV.out, if_neg (by omega)]
    exact HF.out
  · have hcd : decide (cov < po) = false := decide_eq_false hc
    go_enter Tryd.func54, Tryd.ntmps54
    go_wp2_with fail
    go_quiet (fail)
    have H0 : Aside0 (AdvRel w F (.slice (some ⟨g, 0, none⟩) ps.length cap) rest base ps cov (w.drewN nq)) := ⟨HF.out, HR.out.below (pw_below_drewN (Below.refl w.heap.size w) nq), grown_of_below (pw_below_drewN (Below.refl w.heap.size w) nq) _⟩
    have HCV : Aside0 (0 ≤ cov ∧ cov < 4294967296) := ⟨h0, h1⟩
    clear k0 k1 a0 a1 hc hcd HADV h0 h1
    generalize w.drewN nq = wq at *
    go_wp2_with fail
    go_loopw [4] (fun kv wr => ∃ (k : Nat) (cv : Int), k ≤ ps.length ∧ kv = .int .i64 k ∧ Aside0 (0 ≤ cv ∧ cv < 4294967296) ∧ Aside0 (advC cov (ps.drop i) = advC cv (ps.drop k)) ∧ Aside0 (AdvRel w F (.slice (some ⟨g, 0, none⟩) ps.length cap) rest base ps cv wr)) (fun kv _ => ps.length - (intOf kv).toNat)
    case atStart => exact ⟨i, cov, by omega, rfl, HCV, ⟨rfl⟩, H0⟩
    case round =>
      clear H0 HCV
      obtain ⟨k, cv, hk, rfl, hcv, hadv, hrel⟩ := hrel
      have k0 : wr.cell? ⟨F, 0, none⟩ = some (.slice (some ⟨g, 0, none⟩) ps.length cap) := cellB hrel.out.fb 0
      have k1 : wr.cell? ⟨F, 1, none⟩ = some (.int .u32 cv) := cellB hrel.out.fb 1
      by_cases hlt : k < ps.length
      · have hp : ps[k]? = some ps[k] := List.getElem?_eq_getElem hlt
        obtain ⟨g', cap', A2, c2, e1, b0, b1, hd2⟩ := hrel.out.row.get k _ hp
        have hsk := HS.out _ (List.getElem_mem hlt)
        have hstep := advC_drop cv ps k _ hp
        generalize hpk : ps[k] = p at *
        obtain ⟨qo, ql⟩ := p
        obtain ⟨rfl, rfl⟩ : g = g' ∧ cap = cap' := by
          injection e1 with h1 _ h3
          injection h1 with h1
          injection h1 with h1 _ _
          exact ⟨h1, h3⟩
        clear e1
        have q1 : (0 : Int) ≤ (k : Int) := by omega
        have q2 : (k : Int) < (ps.length : Int) := by omega
        have HSK := Aside0.mk hsk
        have HST := Aside0.mk hstep
        have HD2 := Aside0.mk hd2
        clear hp hpk hsk hstep hd2
        by_cases hle : qo ≤ cv
        · have hled : decide (qo ≤ cv) = true := decide_eq_true hle
          go_wp2_with fail
          go_quiet (fail)
          go_wp2_with fail
          have HW : Aside0 (AdvRel w F (.slice (some ⟨g, 0, none⟩) ps.length cap) rest base ps cv (wr.drewN nq)) := ⟨⟨hrel.out.fb, hrel.out.row.below (pw_below_drewN (Below.refl wr.heap.size wr) nq), World.grownBy.trans hrel.out.gr (grown_of_below (pw_below_drewN (Below.refl wr.heap.size wr) nq) _)⟩⟩
          have k0' : (wr.drewN nq).cell? ⟨F, 0, none⟩ = some (.slice (some ⟨g, 0, none⟩) ps.length cap) := k0
          have k1' : (wr.drewN nq).cell? ⟨F, 1, none⟩ = some (.int .u32 cv) := k1
          have b0' : (wr.drewN nq).cell? ⟨g, k * 2, none⟩ = some (.int .u32 qo) := b0
          have b1' : (wr.drewN nq).cell? ⟨g, k * 2 + 1, none⟩ = some (.slice A2 ql.length c2) := b1
          clear k0 k1 b0 b1 hrel
          generalize wr.drewN nq = W at *
          have cE := fun W => end_any qo A2 ql.length c2 W HSK.out.1 HSK.out.2
          have HE := Aside0.mk cE
          clear cE
          go_region_with (go_at_call 43; refine (HE.out _).mono ?_; rintro e w5 ⟨rfl, hb⟩; have HB5 := Aside0.mk hb; have k0'' := pw_cell_below hb k0'; have k1'' := pw_cell_below hb k1'; have hf5 : w5.frozen? ⟨F, 1, none⟩ = false := frozB ((hb.block F (ltB HW.out.fb)).trans HW.out.fb) 1; clear hb)
          all_goals
            have hbW : Below W.heap.size W w5 := ⟨HB5.out.os, HB5.out.tape, HB5.out.output, HB5.out.size, HB5.out.block⟩
            have hfb := (hbW.block F (ltB HW.out.fb)).trans HW.out.fb
            have HW6 : Aside0 (AdvRel w F (.slice (some ⟨g, 0, none⟩) ps.length cap) rest base ps (max cv (qo + (ql.length : Int))) (w5.setCell ⟨F, 1, none⟩ (.int .u32 (max cv (qo + (ql.length : Int)))))) :=
              ⟨⟨blk_setL hfb 1 _, (HW.out.row.below hbW).set hfb (by decide) (by decide) 1 _, World.grownBy.trans HW.out.gr (World.grownBy.trans (grown_of_below hbW _) (grB w5 F 1 _))⟩⟩
            have HV6 : Aside0 (0 ≤ max cv (qo + (ql.length : Int)) ∧ max cv (qo + (ql.length : Int)) < 4294967296) := ⟨by have h1 := hcv.out; have h2 := HSK.out; omega⟩
            have HA6 : Aside0 (advC cov (ps.drop i) = advC (max cv (qo + (ql.length : Int))) (ps.drop (k + 1))) := ⟨by rw [hadv.out, HST.out, if_pos hle]⟩
            clear hbW hfb HB5 k0'' k1'' hf5 k0' k1' b0' b1' HW HST hcv hadv
            generalize w5.setCell ⟨F, 1, none⟩ (.int .u32 (max cv (qo + (ql.length : Int)))) = w6 at *
            generalize max cv (qo + (ql.length : Int)) = mv at *
            have hn1 := HN.out
            go_wp2
            go_roundw
            case rel => exact ⟨k + 1, mv, by omega, by go_num, HV6, HA6, HW6⟩
            case measure => simp [intOf]; omega
        · have hled : decide (qo ≤ cv) = false := decide_eq_false hle
          go_wp2_with fail
          go_quiet (fail)
          go_wp2
          go_end0
          have hb := pw_below_drewN (Below.refl wr.heap.size wr) nq
          refine ⟨rfl, ?_, hrel.out.row.below hb, World.grownBy.trans hrel.out.gr (grown_of_below hb _)⟩
          rw [hadv.out, HST.out, if_neg (by omega)]
          exact hrel.out.fb
      · have q2 : ¬ (k : Int) < (ps.length : Int) := by omega
        have q2d : decide ((k : Int) < (ps.length : Int)) = false := decide_eq_false q2
        go_wp2_with fail
        go_quiet (fail)
        go_wp2
        go_end0
        have hb := pw_below_drewN (Below.refl wr.heap.size wr) nq
        refine ⟨rfl, ?_, hrel.out.row.below hb, World.grownBy.trans hrel.out.gr (grown_of_below hb _)⟩
        rw [hadv.out, List.drop_eq_nil_of_le (by omega)]
        exact hrel.out.fb

end Go.Proofs.YtblmbbllfiigmaaDoor
