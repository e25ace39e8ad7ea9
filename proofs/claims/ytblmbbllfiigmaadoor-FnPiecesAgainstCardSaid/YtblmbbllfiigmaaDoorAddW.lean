/-
  add of a fragment that is new and swallows none, walked.
-/
import Derived.Test.YtblmbbllfiigmaaDoorRep
import Derived.Deep.DeepCutAuto
import Derived.Deep.RegionHeld
namespace Go.Proofs.YtblmbbllfiigmaaDoor
open Go.RowKit Go.Proofs.YtblmbbllfiigmaaDoorW.PrintWords Go.Proofs.YtblmbbllfiigmaaDoorW.PrintLast Go.Proofs.YtblmbbllfiigmaaDoorW.PrintMore

/-- What add leaves of a message's fragments. -/
structure AddPost (w : World) (F : Nat) (v : Value) (base : Nat) (cov : Int) (rest : List Value) (ps : List (Int × List Int)) (idx : Nat) (p : Int × List Int) (w' : World) : Prop where
  ex : ∃ v', w'.heap[F]? = some (.cells (v' :: .int .u32 (advC cov ((insP ps idx p).drop idx)) :: rest).toArray 101) ∧ RowAt w' base v' (insP ps idx p) ∧ (v'.ownBlock = v.ownBlock ∨ ∃ b, v'.ownBlock = some b ∧ w.heap.size ≤ b)
  os : w'.os = w.os
  tape : w'.tape = w.tape
  output : w'.output = w.output
  size : w.heap.size ≤ w'.heap.size
  block : ∀ k, k < w.heap.size → k ≠ F → some k ≠ v.ownBlock → w'.heap[k]? = w.heap[k]?

set_option maxRecDepth 100000 in
set_option maxHeartbeats 2000000 in
set_option linter.unusedSimpArgs false in
theorem add_new (F : Nat) (off : Int) (A : Option Addr) (c : Nat) (l : List Int) (avail : Int) (cov : Int) (rest : List Value) (v : Value) (base : Nat) (ps : List (Int × List Int)) (w : World) (hr : RowAt w base v ps) (hn : ps.length ≤ 1000000) (hn1 : ps.length + 1 ≤ 1000000) (hsm : Small ps)
    (hs : ∀ a b, a ≤ b → b < ps.length → offAt ps a ≤ offAt ps b) (hF : w.heap[F]? = some (.cells (v :: .int .u32 cov :: rest).toArray 101)) (hcv0 : 0 ≤ cov) (hcv1 : cov < 4294967296) (h0 : 0 ≤ off) (h1 : off + (l.length : Int) < 4294967296) (hc : coversB ps (idxOf ps off) off l.length = false) (hsw : idxOf ps off < ps.length → off + (l.length : Int) < endAt ps (idxOf ps off)) (hav : 1 ≤ avail) (hav2 : avail ≤ 1000000) (hbase : base ≤ w.heap.size) (hdat : DatAt w (.slice A l.length c) l) :
    Calls Tryd.prog 41 #[.pointer (some ⟨F, 0, none⟩), .int .u32 off, .slice A l.length c, .int .i64 avail] w fun e w' => e = .returned (.tuple #[.int .i64 1, .int .i64 l.length, .nilIface]) ∧ AddPost w F v base cov rest ps (idxOf ps off) (off, l) w' := by
  obtain ⟨AV, cV, rfl⟩ := hr.slice
  have hix : idxOf ps off ≤ ps.length := by unfold idxOf; exact Nat.le_trans List.countP_le_length (by simp)
  have k0 : w.cell? ⟨F, 0, none⟩ = some (.slice AV ps.length cV) := cellB hF 0
  have HR := Aside0.mk hr
  have HF := Aside0.mk hF
  have HS := Aside0.mk hs
  have HSM := Aside0.mk hsm
  have HC := Aside0.mk hc
  have HN := Aside0.mk hn
  have HN1 : Aside0 (ps.length + 1 ≤ 1000000) := ⟨hn1⟩
  have HIX := Aside0.mk hix
  have HBASE := Aside0.mk hbase
  have HDV := Aside0.mk (dataV_at hdat)
  have hFl : F < w.heap.size := ltB hF
  generalize hlen : l.length = len at *
  have HL := Aside0.mk hlen
  clear hr hF hs hsm hc hn hix hlen
  obtain ⟨A', c', hA0, hA1⟩ : ∃ (A' : Option Addr) (c' : Nat), (len = 0 → A' = none ∧ c' = 0) ∧ (¬ len = 0 → A' = A ∧ c' = c) := by
    by_cases hz : len = 0
    · exact ⟨none, 0, fun _ => ⟨rfl, rfl⟩, fun h => absurd hz h⟩
    · exact ⟨A, c, fun h => absurd h hz, fun _ => ⟨rfl, rfl⟩⟩
  have HDV0 : Aside0 (DatAt w (.slice A' len c') l) := ⟨by
    have h := HDV.out
    unfold dataV at h
    by_cases hz : len = 0
    · rw [if_pos hz] at h
      obtain ⟨e1, e2⟩ := hA0 hz
      rw [e1, e2, hz]; exact h
    · rw [if_neg hz] at h
      obtain ⟨e1, e2⟩ := hA1 hz
      rw [e1, e2]; exact h⟩
  have HA0 := Aside0.mk hA0
  have HA1 := Aside0.mk hA1
  clear hA0 hA1 HDV hdat
  go_enter Tryd.func41, Tryd.ntmps41
  go_upto_if 16 with fail
  go_cut [2] (fun d wx => d = .slice A' len c' ∧ wx = (w.alloc (.cells #[.pointer (some ⟨F, 0, none⟩)] 97)).alloc (.cells #[.int .u32 off] 94))
  case first =>
    by_cases hz : len = 0
    · have hzi : (len : Int) = 0 := by omega
      go_wp2_with fail
      go_meet
      obtain ⟨e1, e2⟩ := HA0.out hz
      exact ⟨by rw [e1, e2, hz], rfl⟩
    · have hzi : ¬ (len : Int) = 0 := by omega
      go_wp2_with fail
      go_meet
      obtain ⟨e1, e2⟩ := HA1.out hz
      exact ⟨by rw [e1, e2], rfl⟩
  case rest =>
    obtain ⟨rfl, rfl⟩ := hcut
    go_upto_region 4 with fail
    have HP := Aside0.mk (addPre_mk w F off (.slice A' len c'))
    generalize ((w.alloc (.cells #[.pointer (some ⟨F, 0, none⟩)] 97)).alloc (.cells #[.int .u32 off] 94)).alloc (.cells #[.int .u32 off, .slice A' len c'] 107) = W at *
    have hFW := (HP.out.bel.block F hFl).trans HF.out
    have HFW := Aside0.mk hFW
    have kF : W.cell? ⟨F, 0, none⟩ = some (.slice AV ps.length cV) := cellB hFW 0
    have kB1 : W.cell? ⟨w.heap.size, 0, none⟩ = some (.pointer (some ⟨F, 0, none⟩)) := cellB HP.out.b1 0
    clear k0 hFW
    go_wp2_with fail
    refine (search_any F w.heap.size (w.heap.size + 1) off (.int .u32 cov) rest _ base ps W (HR.out.below HP.out.bel) HFW.out HP.out.b1 HP.out.b2 HN.out HS.out).mono ?_
    rintro e w2 ⟨rfl, hb⟩
    have HB2 := Aside0.mk (below_then HP.out.bel HP.out.bel.size hb)
    have hF2 := (hb.block F (ltB HFW.out)).trans HFW.out
    have HF2 := Aside0.mk hF2
    have hb1 := (hb.block _ (ltB HP.out.b1)).trans HP.out.b1
    have hb3 := (hb.block _ (ltB HP.out.b3)).trans HP.out.b3
    have kB1 : w2.cell? ⟨w.heap.size, 0, none⟩ = some (.pointer (some ⟨F, 0, none⟩)) := cellB hb1 0
    have kB3 : w2.cell? ⟨w.heap.size + 2, 0, none⟩ = some (.int .u32 off) := cellB hb3 0
    have kB4 : w2.cell? ⟨w.heap.size + 2, 1, none⟩ = some (.slice A' len c') := cellB hb3 1
    have HR2 : Aside0 (RowAt w2 base (.slice AV ps.length cV) ps) := ⟨HR.out.below HB2.out⟩
    clear hb hF2 hb1 hb3 kF HFW HP
    generalize hid : idxOf ps off = idx at *
    have HID := Aside0.mk hid
    go_wp2_with fail
    refine (covers_any F off A' len c' (.int .u32 cov) rest _ base ps idx w2 HR2.out HIX.out HN.out HSM.out HF2.out h0 h1).mono ?_
    rintro e w3 ⟨rfl, hb⟩
    have hcc : coversB ps idx off (len : Int) = false := HC.out
    rw [hcc]
    have HB3 := Aside0.mk (below_then HB2.out HB2.out.size hb)
    have hF3 := (hb.block F (ltB HF2.out)).trans HF2.out
    have HF3 := Aside0.mk hF3
    have m0 : w3.cell? ⟨F, 0, none⟩ = some (.slice AV ps.length cV) := cellB hF3 0
    have m1 := pw_cell_below hb kB1
    have m3 := pw_cell_below hb kB3
    have m4 := pw_cell_below hb kB4
    have HR3 : Aside0 (RowAt w3 base (.slice AV ps.length cV) ps) := ⟨HR2.out.below hb⟩
    have HSW := Aside0.mk hsw
    clear hb hcc hid kB1 kB3 kB4 hF3 hsw
    go_wp2_with fail
    go_loopw [8, 9, 13] (fun a b d wr => a = .int .i64 0 ∧ b = .int .i64 0 ∧ d = .int .i64 idx ∧ wr = w3) (fun _ _ _ _ => 0)
    case atStart => exact ⟨rfl, rfl, rfl, rfl⟩
    case round =>
      obtain ⟨rfl, rfl, rfl, rfl⟩ := hrel
      go_upto_region 8 with fail
      go_cut [51] (fun t wx => t = .bool false ∧ Below wr.heap.size wr wx)
      case first =>
        by_cases hlt : idx < ps.length
        · have hp : ps[idx]? = some ps[idx] := List.getElem?_eq_getElem hlt
          obtain ⟨g, cap, A1, c1', e1, a0, a1, hd⟩ := HR3.out.get idx _ hp
          have hsk := HSM.out _ (List.getElem_mem hlt)
          have hend : off + (len : Int) < (ps[idx]).1 + ((ps[idx]).2.length : Int) := by
            have h := HSW.out hlt
            unfold endAt at h
            rw [List.getD_eq_getElem?_getD, hp] at h
            exact h
          generalize hpk : ps[idx] = p at *
          obtain ⟨po, pl⟩ := p
          have hend : off + (len : Int) < po + (pl.length : Int) := hend
          have cA := fun d os => regrown_call (W := wr) (fun w => end_any po A1 pl.length c1' w hsk.1 hsk.2) d os
          have cB := fun d os => regrown_call (W := wr) (fun w => end_any off A' len c' w h0 h1) d os
          injection e1 with e1 _ e2
          subst e1 e2
          have g0 := cell_regrown m0
          have g1 := cell_regrown m1
          have g3 := cell_regrown m3
          have g4 := cell_regrown m4
          have a0' := cell_regrown a0
          have a1' := cell_regrown a1
          have p2 : (0 : Int) ≤ (idx : Int) := by omega
          have p3 : (idx : Int) < (ps.length : Int) := by omega
          have p4 : ¬ (po + (pl.length : Int) ≤ off + (len : Int)) := by omega
          have p4d : decide (po + (pl.length : Int) ≤ off + (len : Int)) = false := decide_eq_false p4
          clear hp hpk hd a0 a1 hsk hend
          refine wp_region_quiet_below (by kernel_rfl) (by kernel_rfl) ?_
          iterate 16 (go_big_quiet_step (exact cA _ _))
          repeat (go_big_quiet_step (exact cB _ _))
          refine wpQuiet_nil ?_
          intro _ hw'
          obtain ⟨⟨dq, osq⟩, hw''⟩ := hw'
          subst hw''
          have HBQ := Aside0.mk (below_regrown wr dq osq)
          go_wp2_with fail
          go_meet
          exact ⟨rfl, HBQ.out⟩
        · have q2 : ¬ (idx : Int) < (ps.length : Int) := by omega
          have q2d : decide ((idx : Int) < (ps.length : Int)) = false := decide_eq_false q2
          go_quiet (fail)
          have HBQ := Aside0.mk (pw_below_drewN (Below.refl wr.heap.size wr) nq)
          go_wp2_with fail
          go_meet
          exact ⟨rfl, HBQ.out⟩
      case rest =>
        obtain ⟨rfl, hbx⟩ := hcut
        have HBX := Aside0.mk (below_then HB3.out HB3.out.size hbx)
        have HFX : Aside0 (wc.heap[F]? = some (.cells (.slice AV ps.length cV :: .int .u32 cov :: rest).toArray 101)) := ⟨(hbx.block F (ltB HF3.out)).trans HF3.out⟩
        have n0 := pw_cell_below hbx m0
        have n1 := pw_cell_below hbx m1
        have n3 := pw_cell_below hbx m3
        have n4 := pw_cell_below hbx m4
        have HRX : Aside0 (RowAt wc base (.slice AV ps.length cV) ps) := ⟨HR3.out.below hbx⟩
        clear hbx m0 m1 m3 m4 HR3 HF3 HB3
        have hbx : Below wc.heap.size wc (wc.drew.alloc (.cells #[.int .u32 off, .slice A' len c'] 107)) := below_alloc (w := wc) (below_drew (Below.refl _ wc)) _
        have hrep := replace_row base (.slice AV ps.length cV) ps idx wc.heap.size off (.slice A' len c') l (wc.drew.alloc (.cells #[.int .u32 off, .slice A' len c'] 107)) (HRX.out.below hbx) (blk_new wc.drew _) (fun e => by have := HRX.out.lt _ e.symm; omega) (HDV0.out.below (below_then HBX.out HBX.out.size hbx)) HIX.out HN.out (Nat.le_trans HBASE.out (Nat.le_trans HBX.out.size hbx.size))
        have hlt1 : w.heap.size < wc.heap.size := World.block_lt_of_cell? wc _ n1
        have hlt3 : w.heap.size + 2 < wc.heap.size := World.block_lt_of_cell? wc _ n3
        have hFne : F ≠ w.heap.size := Nat.ne_of_lt hFl
        have hFne2 : F ≠ w.heap.size + 2 := by omega
        have p0 : (wc.alloc (.cells #[.int .u32 off, .slice A' len c'] 107)).cell? ⟨F, 0, none⟩ = some (.slice AV ps.length cV) := pw_cell_below (below_alloc (Below.refl _ wc) _) n0
        have p1 : (wc.alloc (.cells #[.int .u32 off, .slice A' len c'] 107)).cell? ⟨w.heap.size, 0, none⟩ = some (.pointer (some ⟨F, 0, none⟩)) := pw_cell_below (below_alloc (Below.refl _ wc) _) n1
        have p3 : (wc.alloc (.cells #[.int .u32 off, .slice A' len c'] 107)).cell? ⟨w.heap.size + 2, 0, none⟩ = some (.int .u32 off) := pw_cell_below (below_alloc (Below.refl _ wc) _) n3
        have p4 : (wc.alloc (.cells #[.int .u32 off, .slice A' len c'] 107)).cell? ⟨w.heap.size + 2, 1, none⟩ = some (.slice A' len c') := pw_cell_below (below_alloc (Below.refl _ wc) _) n4
        have hfr : ∀ w5 v1, (wc.drew.alloc (.cells #[.int .u32 off, .slice A' len c'] 107)).grownBy w5 (Value.slice AV ps.length cV).ownBlock → RowAt w5 base v1 (insP ps idx (off, l)) →
            w5.heap[F]? = some (.cells (.slice AV ps.length cV :: .int .u32 cov :: rest).toArray 101) ∧ w5.cell? ⟨w.heap.size, 0, none⟩ = some (.pointer (some ⟨F, 0, none⟩)) ∧ w5.cell? ⟨w.heap.size + 2, 0, none⟩ = some (.int .u32 off) ∧ w5.cell? ⟨w.heap.size + 2, 1, none⟩ = some (.slice A' len c') := fun w5 v1 hg _ => by
          have hown : ∀ k, w.heap.size ≤ k → some k ≠ (Value.slice AV ps.length cV).ownBlock := fun k hk e => by have := HR.out.lt _ e.symm; omega
          refine ⟨(hg.block F (ltB ((hbx.block F (ltB HFX.out)).trans HFX.out)) (fun e => HRX.out.ne HFX.out (by decide) e.symm)).trans ((hbx.block F (ltB HFX.out)).trans HFX.out), ?_, ?_, ?_⟩
          · exact (World.cell?_of_block (a := ⟨w.heap.size, 0, none⟩) ((hg.block w.heap.size (Nat.lt_of_lt_of_le hlt1 hbx.size) (hown _ (Nat.le_refl _))).trans (hbx.block w.heap.size hlt1))).trans n1
          · exact (World.cell?_of_block (a := ⟨w.heap.size + 2, 0, none⟩) ((hg.block (w.heap.size + 2) (Nat.lt_of_lt_of_le hlt3 hbx.size) (hown _ (by omega))).trans (hbx.block (w.heap.size + 2) hlt3))).trans n3
          · exact (World.cell?_of_block (a := ⟨w.heap.size + 2, 1, none⟩) ((hg.block (w.heap.size + 2) (Nat.lt_of_lt_of_le hlt3 hbx.size) (hown _ (by omega))).trans (hbx.block (w.heap.size + 2) hlt3))).trans n4
        have HCALL := Aside0.mk hrep
        have HFR := Aside0.mk hfr
        have HBX5 := Aside0.mk hbx
        clear hbx hlt1 hlt3 hrep hfr
        go_upto_region 15 with fail
        go_cut [] (fun wx => ∃ (w5 : World) (A1 : Option Addr) (c1 : Nat), Aside0 (RowAt w5 base (.slice A1 (insP ps idx (off, l)).length c1) (insP ps idx (off, l))) ∧ Aside0 ((wc.drew.alloc (.cells #[.int .u32 off, .slice A' len c'] 107)).grownBy w5 (Value.slice AV ps.length cV).ownBlock) ∧
            Aside0 ((Value.slice A1 (insP ps idx (off, l)).length c1).ownBlock = (Value.slice AV ps.length cV).ownBlock ∨ ∃ b, (Value.slice A1 (insP ps idx (off, l)).length c1).ownBlock = some b ∧ (wc.drew.alloc (.cells #[.int .u32 off, .slice A' len c'] 107)).heap.size ≤ b) ∧ wx = w5.setCell ⟨F, 0, none⟩ (.slice A1 (insP ps idx (off, l)).length c1))
        case first =>
          refine wp_region_held_drew (S := fun w' => w'.cell? ⟨w.heap.size, 0, none⟩ = some (.pointer (some ⟨F, 0, none⟩)) ∧ w'.cell? ⟨w.heap.size + 2, 0, none⟩ = some (.int .u32 off) ∧ w'.cell? ⟨w.heap.size + 2, 1, none⟩ = some (.slice A' len c')) (by kernel_rfl) ⟨n1, n3, n4⟩ (fun hHeld => ?_)
          refine wpAnyH_take (i := 5) (v := ?v1) rfl (by kernel_rfl) (by kernel_rfl) (by kernel_rfl) (fun _ _ _ h => h) (Or.inl ⟨by rfl, ?h1⟩) (by assumption) ?r1
          case h1 => intro w hSw; (try dsimp only at hSw); go_simp; (try with_reducible rfl)
          try simp only [Act.put, List.setIfInBounds_toArray, List.set_cons_zero, List.set_cons_succ]
          refine wpAnyH_take (i := 6) (v := ?v2) rfl (by kernel_rfl) (by kernel_rfl) (by kernel_rfl) (fun _ _ _ h => h) (Or.inl ⟨by rfl, ?h2⟩) (by assumption) ?r2
          case h2 => intro w hSw; (try dsimp only at hSw); go_simp; (try with_reducible rfl)
          try simp only [Act.put, List.setIfInBounds_toArray, List.set_cons_zero, List.set_cons_succ]
          refine wpAnyH_take (i := 7) (v := ?v3) rfl (by kernel_rfl) (by kernel_rfl) (by kernel_rfl) (fun _ _ _ h => h) (Or.inl ⟨by rfl, ?h3⟩) (by assumption) ?r3
          case h3 => intro w hSw; (try dsimp only at hSw); go_simp; (try with_reducible rfl)
          try simp only [Act.put, List.setIfInBounds_toArray, List.set_cons_zero, List.set_cons_succ]
          refine wpAnyH_take (i := 0) (v := ?v4) rfl (by kernel_rfl) (by kernel_rfl) (by kernel_rfl) (fun _ _ _ h => h) (Or.inl ⟨by rfl, ?h4⟩) (by assumption) ?r4
          case h4 => intro w hSw; (try dsimp only at hSw); go_simp; (try with_reducible rfl)
          try simp only [Act.put, List.setIfInBounds_toArray, List.set_cons_zero, List.set_cons_succ]
          refine wpAnyH_take (i := 1) (v := ?v5) rfl (by kernel_rfl) (by kernel_rfl) (by kernel_rfl) (fun _ _ _ h => h) (Or.inl ⟨by rfl, ?h5⟩) (by assumption) ?r5
          case h5 => intro w hSw; (try dsimp only at hSw); go_simp; (try with_reducible rfl)
          try simp only [Act.put, List.setIfInBounds_toArray, List.set_cons_zero, List.set_cons_succ]
          refine wpAnyH_take (i := 2) (v := ?v6) rfl (by kernel_rfl) (by kernel_rfl) (by kernel_rfl) (fun _ _ _ h => h) (Or.inl ⟨by rfl, ?h6⟩) (by assumption) ?r6
          case h6 => intro w hSw; (try dsimp only at hSw); go_simp; (try with_reducible rfl)
          try simp only [Act.put, List.setIfInBounds_toArray, List.set_cons_zero, List.set_cons_succ]
          refine wpAnyH_take (i := 3) (v := ?v7) rfl (by kernel_rfl) (by kernel_rfl) (by kernel_rfl) (fun _ _ _ h => h) (Or.inl ⟨by rfl, ?h7⟩) (by assumption) ?r7
          case h7 => intro w hSw; (try dsimp only at hSw); go_simp; (try with_reducible rfl)
          try simp only [Act.put, List.setIfInBounds_toArray, List.set_cons_zero, List.set_cons_succ]
          refine wpAnyH_ready (rs := [4, 8]) (by kernel_rfl) (by simp) ?_
          refine AllReadyH.cons rfl (fun K hK => ?_) (AllReadyH.cons rfl (fun K hK => ?_) AllReadyH.nil)
          · go_simp
            refine hK.out _ _ ⟨n1, n3, n4⟩ (fun hHeld => ?_)
            clear hK K
            refine wpAnyH_ready (rs := [8]) (by kernel_rfl) (by simp) ?_
            refine AllReadyH.cons rfl (fun K hK => ?_) AllReadyH.nil
            go_simp
            refine hK.out _ _ ⟨p1, p3, p4⟩ (fun hHeld => ?_)
            clear hK K
            refine wpAnyH_ready (rs := [9]) (by kernel_rfl) (by simp) ?_
            refine AllReadyH.cons rfl (fun K hK => ?_) AllReadyH.nil
            go_simp
            go_wp2_with (go_at_call 53; refine HCALL.out.mono ?_; rintro e w5 ⟨v1, rfl, hrow, hg, hat⟩; obtain ⟨A1, c1, rfl⟩ := hrow.slice; obtain ⟨hF5, o1, o3, o4⟩ := HFR.out w5 _ hg hrow; have o0 : w5.cell? ⟨F, 0, none⟩ = some (.slice AV ps.length cV) := cellB hF5 0; have of0 : w5.frozen? ⟨F, 0, none⟩ = false := frozB hF5 0; have HROW := Aside0.mk hrow; have HGR := Aside0.mk hg; have HAT := Aside0.mk hat; have q1 : (w5.setCell ⟨F, 0, none⟩ (.slice A1 (insP ps idx (off, l)).length c1)).cell? ⟨w.heap.size, 0, none⟩ = some (.pointer (some ⟨F, 0, none⟩)) := (World.cell?_setCell_far _ _ _ _ hFne).trans o1; have q3 : (w5.setCell ⟨F, 0, none⟩ (.slice A1 (insP ps idx (off, l)).length c1)).cell? ⟨w.heap.size + 2, 0, none⟩ = some (.int .u32 off) := (World.cell?_setCell_far _ _ _ _ hFne2).trans o3; have q4 : (w5.setCell ⟨F, 0, none⟩ (.slice A1 (insP ps idx (off, l)).length c1)).cell? ⟨w.heap.size + 2, 1, none⟩ = some (.slice A' len c') := (World.cell?_setCell_far _ _ _ _ hFne2).trans o4; clear hrow hg hat hF5)
            refine hK.out _ _ ⟨o1, o3, o4⟩ (fun hHeld => ?_)
            clear hK K
            refine wpAnyH_take (i := 10) (v := ?v101) rfl (by kernel_rfl) (by kernel_rfl) (by kernel_rfl) (fun _ _ _ h => h) (Or.inl ⟨by rfl, ?h101⟩) (by assumption) ?r101
            case h101 => intro w hSw; (try dsimp only at hSw); go_simp; (try with_reducible rfl)
            try simp only [Act.put, List.setIfInBounds_toArray, List.set_cons_zero, List.set_cons_succ]
            refine wpAnyH_take (i := 11) (v := ?v102) rfl (by kernel_rfl) (by kernel_rfl) (by kernel_rfl) (fun _ _ _ h => h) (Or.inl ⟨by rfl, ?h102⟩) (by assumption) ?r102
            case h102 => intro w hSw; (try dsimp only at hSw); go_simp; (try with_reducible rfl)
            try simp only [Act.put, List.setIfInBounds_toArray, List.set_cons_zero, List.set_cons_succ]
            refine wpAnyH_ready (rs := [12]) (by kernel_rfl) (by simp) ?_
            refine AllReadyH.cons rfl (fun K hK => ?_) AllReadyH.nil
            go_simp
            refine hK.out _ _ ⟨q1, q3, q4⟩ (fun hHeld => ?_)
            clear hK K
            refine wpAnyH_done (by kernel_rfl) ?_ _
            go_wp2_with fail
            go_meet
            exact ⟨w5, A1, c1, HROW, HGR, HAT, rfl⟩
          · go_simp
            refine hK.out _ _ ⟨p1, p3, p4⟩ (fun hHeld => ?_)
            clear hK K
            refine wpAnyH_ready (rs := [4]) (by kernel_rfl) (by simp) ?_
            refine AllReadyH.cons rfl (fun K hK => ?_) AllReadyH.nil
            go_simp
            refine hK.out _ _ ⟨p1, p3, p4⟩ (fun hHeld => ?_)
            clear hK K
            refine wpAnyH_ready (rs := [9]) (by kernel_rfl) (by simp) ?_
            refine AllReadyH.cons rfl (fun K hK => ?_) AllReadyH.nil
            go_simp
            go_wp2_with (go_at_call 53; refine HCALL.out.mono ?_; rintro e w5 ⟨v1, rfl, hrow, hg, hat⟩; obtain ⟨A1, c1, rfl⟩ := hrow.slice; obtain ⟨hF5, o1, o3, o4⟩ := HFR.out w5 _ hg hrow; have o0 : w5.cell? ⟨F, 0, none⟩ = some (.slice AV ps.length cV) := cellB hF5 0; have of0 : w5.frozen? ⟨F, 0, none⟩ = false := frozB hF5 0; have HROW := Aside0.mk hrow; have HGR := Aside0.mk hg; have HAT := Aside0.mk hat; have q1 : (w5.setCell ⟨F, 0, none⟩ (.slice A1 (insP ps idx (off, l)).length c1)).cell? ⟨w.heap.size, 0, none⟩ = some (.pointer (some ⟨F, 0, none⟩)) := (World.cell?_setCell_far _ _ _ _ hFne).trans o1; have q3 : (w5.setCell ⟨F, 0, none⟩ (.slice A1 (insP ps idx (off, l)).length c1)).cell? ⟨w.heap.size + 2, 0, none⟩ = some (.int .u32 off) := (World.cell?_setCell_far _ _ _ _ hFne2).trans o3; have q4 : (w5.setCell ⟨F, 0, none⟩ (.slice A1 (insP ps idx (off, l)).length c1)).cell? ⟨w.heap.size + 2, 1, none⟩ = some (.slice A' len c') := (World.cell?_setCell_far _ _ _ _ hFne2).trans o4; clear hrow hg hat hF5)
            refine hK.out _ _ ⟨o1, o3, o4⟩ (fun hHeld => ?_)
            clear hK K
            refine wpAnyH_take (i := 10) (v := ?v103) rfl (by kernel_rfl) (by kernel_rfl) (by kernel_rfl) (fun _ _ _ h => h) (Or.inl ⟨by rfl, ?h103⟩) (by assumption) ?r103
            case h103 => intro w hSw; (try dsimp only at hSw); go_simp; (try with_reducible rfl)
            try simp only [Act.put, List.setIfInBounds_toArray, List.set_cons_zero, List.set_cons_succ]
            refine wpAnyH_take (i := 11) (v := ?v104) rfl (by kernel_rfl) (by kernel_rfl) (by kernel_rfl) (fun _ _ _ h => h) (Or.inl ⟨by rfl, ?h104⟩) (by assumption) ?r104
            case h104 => intro w hSw; (try dsimp only at hSw); go_simp; (try with_reducible rfl)
            try simp only [Act.put, List.setIfInBounds_toArray, List.set_cons_zero, List.set_cons_succ]
            refine wpAnyH_ready (rs := [12]) (by kernel_rfl) (by simp) ?_
            refine AllReadyH.cons rfl (fun K hK => ?_) AllReadyH.nil
            go_simp
            refine hK.out _ _ ⟨q1, q3, q4⟩ (fun hHeld => ?_)
            clear hK K
            refine wpAnyH_done (by kernel_rfl) ?_ _
            go_wp2_with fail
            go_meet
            exact ⟨w5, A1, c1, HROW, HGR, HAT, rfl⟩
        case rest =>
          obtain ⟨w5, A1, c1, HROW, HGR, HAT, rfl⟩ := hcut
          obtain ⟨hF5, o1, o3, o4⟩ := HFR.out w5 _ HGR.out HROW.out
          have q1 : (w5.setCell ⟨F, 0, none⟩ (.slice A1 (insP ps idx (off, l)).length c1)).cell? ⟨w.heap.size, 0, none⟩ = some (.pointer (some ⟨F, 0, none⟩)) := (World.cell?_setCell_far _ _ _ _ hFne).trans o1
          have HG5 : Aside0 ((wc.drew.alloc (.cells #[.int .u32 off, .slice A' len c'] 107)).grownBy (w5.setCell ⟨F, 0, none⟩ (.slice A1 (insP ps idx (off, l)).length c1)) none ∨ True) := ⟨Or.inr trivial⟩
          have HF6 := Aside0.mk (blk_setL hF5 0 (.slice A1 (insP ps idx (off, l)).length c1))
          have HR6 : Aside0 (RowAt (w5.setCell ⟨F, 0, none⟩ (.slice A1 (insP ps idx (off, l)).length c1)) base (.slice A1 (insP ps idx (off, l)).length c1) (insP ps idx (off, l))) := ⟨HROW.out.set hF5 (by decide) (by decide) 0 _⟩
          have hlen : (insP ps idx (off, l)).length = ps.length + 1 := by have := HIX.out; simp [insP]; omega
          have hsm : Small (insP ps idx (off, l)) := fun p hp => by
            unfold insP at hp
            rcases List.mem_append.1 hp with hp | hp
            · rcases List.mem_append.1 hp with hp | hp
              · exact HSM.out p (List.mem_of_mem_take hp)
              · obtain rfl : p = (off, l) := by simpa using hp
                exact ⟨h0, by have := HL.out; simp only; omega⟩
            · exact HSM.out p (List.mem_of_mem_drop hp)
          have HADV := Aside0.mk (adv_any F cov rest _ base (insP ps idx (off, l)) idx _ HR6.out (by rw [hlen]; have := HIX.out; omega) (by rw [hlen]; exact HN1.out) hsm HF6.out hcv0 hcv1)
          have HGW : Aside0 (∀ k, k < w.heap.size → k ≠ F → some k ≠ (Value.slice AV ps.length cV).ownBlock → (w5.setCell ⟨F, 0, none⟩ (.slice A1 (insP ps idx (off, l)).length c1)).heap[k]? = w.heap[k]?) := ⟨fun k hk hne ho => by
            have hk2 : k < wc.heap.size := Nat.lt_of_lt_of_le hk HBX.out.size
            exact (Below.heap_setCell w5 ⟨F, 0, none⟩ _ k (by simpa using hne)).trans ((HGR.out.block k (Nat.lt_of_lt_of_le hk2 HBX5.out.size) ho).trans ((HBX5.out.block k hk2).trans (HBX.out.block k hk)))⟩
          have HSZ : Aside0 (w.heap.size ≤ (w5.setCell ⟨F, 0, none⟩ (.slice A1 (insP ps idx (off, l)).length c1)).heap.size ∧ (w5.setCell ⟨F, 0, none⟩ (.slice A1 (insP ps idx (off, l)).length c1)).os = w.os ∧ (w5.setCell ⟨F, 0, none⟩ (.slice A1 (insP ps idx (off, l)).length c1)).tape = w.tape ∧ (w5.setCell ⟨F, 0, none⟩ (.slice A1 (insP ps idx (off, l)).length c1)).output = w.output) := ⟨by
            refine ⟨?_, HGR.out.os.trans (HBX5.out.os.trans HBX.out.os), HGR.out.tape.trans (HBX5.out.tape.trans HBX.out.tape), HGR.out.output.trans (HBX5.out.output.trans HBX.out.output)⟩
            have e := (grB w5 F 0 (.slice A1 (insP ps idx (off, l)).length c1)).size
            exact Nat.le_trans HBX.out.size (Nat.le_trans HBX5.out.size (Nat.le_trans HGR.out.size e))⟩
          clear o1 o3 o4 hF5 p0 p1 p3 p4 n0 n1 n3 n4 HG5
          generalize w5.setCell ⟨F, 0, none⟩ (.slice A1 (insP ps idx (off, l)).length c1) = w6 at *
          go_wp2_with fail
          refine HADV.out.mono ?_
          rintro e w7 ⟨rfl, hadv⟩
          have HA7 := Aside0.mk hadv
          clear hadv
          go_wp2
          go_ret3
          refine ⟨rfl, ?_⟩
          rw [HID.out]
          have hF7 := HA7.out.fb
          have hg7 := HA7.out.gr
          have hown : ∀ k, k < w.heap.size → k ≠ F → w7.heap[k]? = w6.heap[k]? := fun k hk hne => hg7.block k (Nat.lt_of_lt_of_le hk HSZ.out.1) (by simpa using hne)
          refine ⟨⟨_, hF7, HA7.out.row, ?_⟩, hg7.os.trans HSZ.out.2.1, hg7.tape.trans HSZ.out.2.2.1, hg7.output.trans HSZ.out.2.2.2, Nat.le_trans HSZ.out.1 hg7.size, fun k hk hne ho => (hown k hk hne).trans (HGW.out k hk hne ho)⟩
          rcases HAT.out with e | ⟨b, e, hb⟩
          · exact Or.inl e
          · exact Or.inr ⟨b, e, Nat.le_trans (Nat.le_trans HBX.out.size HBX5.out.size) hb⟩

end Go.Proofs.YtblmbbllfiigmaaDoor
