/-
  sort.Search over a message's fragments, and covers, walked.
-/
import Derived.Test.YtblmbbllfiigmaaDoorRow
import Derived.BigQuiet
namespace Go.Proofs.YtblmbbllfiigmaaDoor
open Go.RowKit Go.Proofs.YtblmbbllfiigmaaDoorW.PrintWords Go.Proofs.YtblmbbllfiigmaaDoorW.PrintLast Go.Proofs.YtblmbbllfiigmaaDoorW.PrintMore

def offAt (ps : List (Int × List Int)) (i : Nat) : Int := (ps.getD i (0, [])).1
def idxOf (ps : List (Int × List Int)) (off : Int) : Nat := (List.range ps.length).countP (fun i => !decide (off ≤ offAt ps i))

theorem grow_below (w : World) (m : Nat) (os : Array Obj) : Below w.heap.size w (Sort.grow (w.drewN m) os) :=
  below_grown_sl w.heap.size w m os (Nat.le_refl _)

theorem search_any (F B1 B2 : Nat) (off : Int) (cov : Value) (rest : List Value) (v : Value) (base : Nat) (ps : List (Int × List Int)) (w : World) (hr : RowAt w base v ps)
    (hF : w.heap[F]? = some (.cells (v :: cov :: rest).toArray 101)) (h1 : w.heap[B1]? = some (.cells [.pointer (some ⟨F, 0, none⟩)].toArray 97)) (h2 : w.heap[B2]? = some (.cells [.int .u32 off].toArray 94))
    (hn : ps.length ≤ 1000000) (hs : ∀ a b, a ≤ b → b < ps.length → offAt ps a ≤ offAt ps b) :
    Calls Tryd.prog 50 #[.int .i64 ps.length, .func (.func 51) #[] #[.pointer (some ⟨B1, 0, none⟩), .pointer (some ⟨B2, 0, none⟩)]] w fun e w' => e = .returned (.int .i64 (idxOf ps off)) ∧ Below w.heap.size w w' := by
  have hq := Any.sort_Search Tryd.search 51 #[.pointer (some ⟨B1, 0, none⟩), .pointer (some ⟨B2, 0, none⟩)] ps.length (fun i => decide (off ≤ offAt ps i)) w (fun args W => by rfl) (by omega) ?_ ?_
  · refine hq.mono ?_
    rintro e w' ⟨rfl, q, os, rfl⟩
    exact ⟨rfl, grow_below w q os⟩
  · intro m os i hi
    have hb := grow_below w m os
    have hp : ps[i]? = some ps[i] := List.getElem?_eq_getElem hi
    refine (geq_any F B1 B2 off cov rest v base ps i ps[i] _ hp (hr.below hb) ((hb.block F (ltB hF)).trans hF) ((hb.block B1 (ltB h1)).trans h1) ((hb.block B2 (ltB h2)).trans h2)).mono ?_
    rintro e w' ⟨rfl, q, rfl⟩
    refine ⟨?_, q, #[], ?_⟩
    · rw [offAt, List.getD_eq_getElem?_getD, hp]; rfl
    · rw [Sort.grow_empty]
  · intro a b hab hb ha
    have := hs a b hab hb
    have ha' : off ≤ offAt ps a := by simpa using ha
    simp
    omega

def endAt (ps : List (Int × List Int)) (i : Nat) : Int := (ps.getD i (0, [])).1 + ((ps.getD i (0, [])).2.length : Int)
def coversB (ps : List (Int × List Int)) (i : Nat) (off len : Int) : Bool :=
  (decide (0 < i) && decide (off + len ≤ endAt ps (i - 1))) || (decide (i < ps.length) && offAt ps i == off && decide (off + len ≤ endAt ps i))

theorem getD_at {ps : List (Int × List Int)} {i : Nat} {p : Int × List Int} (hp : ps[i]? = some p) : offAt ps i = p.1 ∧ endAt ps i = p.1 + (p.2.length : Int) := by
  constructor
  · rw [offAt, List.getD_eq_getElem?_getD, hp]; rfl
  · rw [endAt, List.getD_eq_getElem?_getD, hp]; rfl

/-- The pairs' numbers are small. -/
def Small (ps : List (Int × List Int)) : Prop := ∀ p ∈ ps, 0 ≤ p.1 ∧ p.1 + (p.2.length : Int) < 4294967296

theorem regrown_call {f : FuncId} {args : Array Value} {W : World} {v : Value} (h : ∀ w, Calls Tryd.prog f args w fun e w' => e = .returned v ∧ Below w.heap.size w w') (d : Nat) (os : Array Obj) :
    Calls Tryd.prog f args (Sort.grow (redrawn W d) os) fun e w'' => e = .returned v ∧ ∃ p : Regrown, w'' = Sort.grow (redrawn W p.d) p.os := Calls.regrown_of (h _)

theorem wsub1 (k : Nat) (h : k ≤ 1000000) : IntKind.i64.wrap (k : Int) = (k : Int) := by rw [IntKind.wrap_i64]; omega

set_option maxRecDepth 100000 in
set_option maxHeartbeats 1000000 in
set_option linter.unusedSimpArgs false in
theorem covers_any (F : Nat) (off : Int) (A : Option Addr) (len c : Nat) (cov : Value) (rest : List Value) (v : Value) (base : Nat) (ps : List (Int × List Int)) (i : Nat) (w : World) (hr : RowAt w base v ps) (hi : i ≤ ps.length) (hn : ps.length ≤ 1000000) (hsm : Small ps)
    (hF : w.heap[F]? = some (.cells (v :: cov :: rest).toArray 101)) (h0 : 0 ≤ off) (h1 : off + len < 4294967296) :
    Calls Tryd.prog 52 #[.pointer (some ⟨F, 0, none⟩), .int .i64 i, .agg #[.int .u32 off, .slice A len c]] w fun e w' => e = .returned (.bool (coversB ps i off len)) ∧ Below w.heap.size w w' := by
  obtain ⟨AV, cV, rfl⟩ := hr.slice
  obtain ⟨W, hW⟩ : ∃ W, W = w.alloc (.cells #[.int .u32 off, .slice A len c] 107) := ⟨_, rfl⟩
  have hbW : Below w.heap.size w W := by rw [hW]; exact below_alloc (Below.refl _ w) _
  have hFW := (hbW.block F (ltB hF)).trans hF
  have k0 : W.cell? ⟨F, 0, none⟩ = some (.slice AV ps.length cV) := cellB hFW 0
  have hbox : W.heap[w.heap.size]? = some (.cells [.int .u32 off, .slice A len c].toArray 107) := by rw [hW]; exact blk_new w _
  have j0 : W.cell? ⟨w.heap.size, 0, none⟩ = some (.int .u32 off) := cellB hbox 0
  have j1 : W.cell? ⟨w.heap.size, 1, none⟩ = some (.slice A len c) := cellB hbox 1
  have hrW := hr.below hbW
  have cB := fun d os => regrown_call (W := W) (fun w => end_any off A len c w h0 h1) d os
  have g0 := cell_regrown k0
  have m0 := cell_regrown j0
  have m1 := cell_regrown j1
  have HBW := Aside0.mk hbW
  have HR := Aside0.mk hrW
  have HS := Aside0.mk hsm
  have HN := Aside0.mk hn
  have HW := Aside0.mk hW
  have HI := Aside0.mk hi
  clear hr hrW hbW hF hFW hbox hW hsm hn hi
  by_cases c1 : 0 < i
  · obtain ⟨k, rfl⟩ : ∃ k, i = k + 1 := ⟨i - 1, by omega⟩
    have hk : k < ps.length := by have := HI.out; omega
    have hp : ps[k]? = some ps[k] := List.getElem?_eq_getElem hk
    obtain ⟨g, cap, A1, c1', e1, a0, a1, hd⟩ := HR.out.get k _ hp
    have hsk := HS.out _ (List.getElem_mem hk)
    have hgo := getD_at hp
    generalize hpk : ps[k] = p at *
    obtain ⟨po, pl⟩ := p
    have cA := fun d os => regrown_call (W := W) (fun w => end_any po A1 pl.length c1' w hsk.1 hsk.2) d os
    injection e1 with e1 _ e2
    subst e1 e2
    have a0' := cell_regrown a0
    have a1' := cell_regrown a1
    have p1 : (0 : Int) < (k : Int) + 1 := by omega
    have p2 : (0 : Int) ≤ (k : Int) := by omega
    have p3 : (k : Int) < (ps.length : Int) := by omega
    have q4 : IntKind.i64.wrap (k : Int) = (k : Int) := wsub1 k (by have := HN.out; omega)
    have HP := Aside0.mk hpk
    have HD := Aside0.mk hd
    have HG := Aside0.mk hgo
    clear hp hpk hd hgo a0 a1
    go_enter Tryd.func52, Tryd.ntmps52
    go_wp2_with fail
    rw [← HW.out]
    refine wp_region_quiet_below (by kernel_rfl) (by kernel_rfl) ?_
    iterate 12 (go_big_quiet_step (exact cA _ _))
    repeat (go_big_quiet_step (exact cB _ _))
    refine wpQuiet_nil ?_
    intro _ hw'
    obtain ⟨⟨dq, osq⟩, hw''⟩ := hw'
    subst hw''
    by_cases c2 : off + (len : Int) ≤ po + (pl.length : Int)
    · have HB2 := Aside0.mk (below_then HBW.out HBW.out.size (below_regrown W dq osq))
      generalize Sort.grow (redrawn W dq) osq = W2 at *
      go_wp2
      go_ret
      refine ⟨?_, HB2.out⟩
      have h9 : coversB ps (k + 1) off len = true := by
        simp [coversB, HG.out.2, c2]
      rw [h9]; rfl
    · have C2 := Aside0.mk c2
      have hbW2 := Aside0.mk (below_then HBW.out HBW.out.size (below_regrown W dq osq))
      have k0' : (Sort.grow (redrawn W dq) osq).cell? ⟨F, 0, none⟩ = some (.slice (some ⟨g, 0, none⟩) ps.length cV) := cell_regrown k0 dq osq
      have j0' : (Sort.grow (redrawn W dq) osq).cell? ⟨w.heap.size, 0, none⟩ = some (.int .u32 off) := cell_regrown j0 dq osq
      have j1' : (Sort.grow (redrawn W dq) osq).cell? ⟨w.heap.size, 1, none⟩ = some (.slice A len c) := cell_regrown j1 dq osq
      have HR2 : Aside0 (RowAt (Sort.grow (redrawn W dq) osq) base (.slice (some ⟨g, 0, none⟩) ps.length cV) ps) := ⟨HR.out.below (below_regrown W dq osq)⟩
      clear cB g0 m0 m1 k0 j0 j1 a0' a1' cA
      generalize Sort.grow (redrawn W dq) osq = W2 at *
      have cB := fun d os => regrown_call (W := W2) (fun w => end_any off A len c w h0 h1) d os
      have g0 := cell_regrown k0'
      have m0 := cell_regrown j0'
      have m1 := cell_regrown j1'
      by_cases c3 : k + 1 < ps.length
      · have hp : ps[k + 1]? = some ps[k + 1] := List.getElem?_eq_getElem c3
        obtain ⟨g2, cap2, A2, c2', e1, a0, a1, hd⟩ := HR2.out.get (k + 1) _ hp
        have hsk2 := HS.out _ (List.getElem_mem c3)
        have hgo2 := getD_at hp
        generalize hpk : ps[k + 1] = p at *
        obtain ⟨qo, ql⟩ := p
        have cA2 := fun d os => regrown_call (W := W2) (fun w => end_any qo A2 ql.length c2' w hsk2.1 hsk2.2) d os
        injection e1 with e1 _ e2
        subst e2
        skip
        have a0' := cell_regrown a0
        have a1' := cell_regrown a1
        have p1 : ((k : Int) + 1 : Int) < (ps.length : Int) := by omega
        have p2 : (0 : Int) ≤ ((k : Int) + 1 : Int) := by omega
        have HP := Aside0.mk hpk
        have HG2 := Aside0.mk hgo2
        have HD := Aside0.mk hd
        clear hp hpk hd hgo2 a0 a1
        by_cases hq2 : off = qo
        · obtain rfl := hq2
          go_wp2_with fail
          refine wp_region_quiet_below (by kernel_rfl) (by kernel_rfl) ?_
          iterate 29 (go_big_quiet_step (exact cA2 _ _))
          repeat (go_big_quiet_step (exact cB _ _))
          refine wpQuiet_nil ?_
          intro _ hw'
          obtain ⟨⟨dr, osr⟩, hw''⟩ := hw'
          subst hw''
          have hbW3 := Aside0.mk (below_then hbW2.out hbW2.out.size (below_regrown W2 dr osr))
          generalize Sort.grow (redrawn W2 dr) osr = W3 at *
          go_wp2
          go_ret
          refine ⟨?_, hbW3.out⟩
          have h9 : coversB ps (k + 1) off len = decide (len ≤ ql.length) := by
            have h8 : decide (off + (len : Int) ≤ off + (ql.length : Int)) = decide (len ≤ ql.length) := by rw [decide_eq_decide]; omega
            simp only [coversB, HG2.out.1, HG2.out.2, h8]
            simp [c3, HG.out.2]
            intro h
            have := C2.out
            omega
          rw [h9]; rfl
        · have hq : (qo == off) = false := by simpa using fun h : qo = off => hq2 h.symm
          have hq3 : ¬ qo = off := fun h => hq2 h.symm
          go_wp2_with fail
          refine wp_region_quiet_below (by kernel_rfl) (by kernel_rfl) ?_
          repeat (go_big_quiet_step (fail))
          refine wpQuiet_nil ?_
          intro _ hw'
          obtain ⟨⟨dr, osr⟩, hw''⟩ := hw'
          subst hw''
          have hbW3 := Aside0.mk (below_then hbW2.out hbW2.out.size (below_regrown W2 dr osr))
          generalize Sort.grow (redrawn W2 dr) osr = W3 at *
          go_wp2
          go_ret
          refine ⟨?_, hbW3.out⟩
          have h9 : coversB ps (k + 1) off len = false := by
            simp [coversB, HG2.out.1, hq, HG.out.2, C2.out]
          rw [h9]; rfl
      · have p1 : ¬ ((k : Int) + 1 : Int) < (ps.length : Int) := by omega
        have p1d : decide (((k : Int) + 1 : Int) < (ps.length : Int)) = false := decide_eq_false p1
        go_wp2_with fail
        refine wp_region_quiet_below (by kernel_rfl) (by kernel_rfl) ?_
        repeat (go_big_quiet_step (fail))
        refine wpQuiet_nil ?_
        intro _ hw'
        obtain ⟨⟨dr, osr⟩, hw''⟩ := hw'
        subst hw''
        have hbW3 := Aside0.mk (below_then hbW2.out hbW2.out.size (below_regrown W2 dr osr))
        generalize Sort.grow (redrawn W2 dr) osr = W3 at *
        go_wp2
        go_ret
        refine ⟨?_, hbW3.out⟩
        have h9 : coversB ps (k + 1) off len = false := by
          simp [coversB, c3, HG.out.2, C2.out]
        rw [h9]; rfl
  · obtain rfl : i = 0 := by omega
    go_enter Tryd.func52, Tryd.ntmps52
    go_wp2_with fail
    rw [← HW.out]
    refine wp_region_quiet_below (by kernel_rfl) (by kernel_rfl) ?_
    repeat (go_big_quiet_step (fail))
    refine wpQuiet_nil ?_
    intro _ hw'
    obtain ⟨⟨dq, osq⟩, hw''⟩ := hw'
    subst hw''
    have hbW2 := Aside0.mk (below_then HBW.out HBW.out.size (below_regrown W dq osq))
    have k0' : (Sort.grow (redrawn W dq) osq).cell? ⟨F, 0, none⟩ = some (.slice AV ps.length cV) := cell_regrown k0 dq osq
    have j0' : (Sort.grow (redrawn W dq) osq).cell? ⟨w.heap.size, 0, none⟩ = some (.int .u32 off) := cell_regrown j0 dq osq
    have j1' : (Sort.grow (redrawn W dq) osq).cell? ⟨w.heap.size, 1, none⟩ = some (.slice A len c) := cell_regrown j1 dq osq
    have HR2 : Aside0 (RowAt (Sort.grow (redrawn W dq) osq) base (.slice AV ps.length cV) ps) := ⟨HR.out.below (below_regrown W dq osq)⟩
    clear cB g0 m0 m1 k0 j0 j1
    generalize Sort.grow (redrawn W dq) osq = W2 at *
    have cB := fun d os => regrown_call (W := W2) (fun w => end_any off A len c w h0 h1) d os
    have g0 := cell_regrown k0'
    have m0 := cell_regrown j0'
    have m1 := cell_regrown j1'
    by_cases c3 : 0 < ps.length
    · have hp : ps[0]? = some ps[0] := List.getElem?_eq_getElem c3
      obtain ⟨g2, cap2, A2, c2', e1, a0, a1, hd⟩ := HR2.out.get (0) _ hp
      have hsk2 := HS.out _ (List.getElem_mem c3)
      have hgo2 := getD_at hp
      generalize hpk : ps[0] = p at *
      obtain ⟨qo, ql⟩ := p
      have cA2 := fun d os => regrown_call (W := W2) (fun w => end_any qo A2 ql.length c2' w hsk2.1 hsk2.2) d os
      injection e1 with e1 _ e2
      subst e1 e2
      rw [Nat.zero_mul] at a0 a1
      have a0' := cell_regrown a0
      have a1' := cell_regrown a1
      have p1 : (0 : Int) < (ps.length : Int) := by omega
      have p2 : (0 : Int) ≤ (0 : Int) := by omega
      have HP := Aside0.mk hpk
      have HG2 := Aside0.mk hgo2
      have HD := Aside0.mk hd
      clear hp hpk hd hgo2 a0 a1
      by_cases hq2 : off = qo
      · obtain rfl := hq2
        go_wp2_with fail
        refine wp_region_quiet_below (by kernel_rfl) (by kernel_rfl) ?_
        iterate 29 (go_big_quiet_step (exact cA2 _ _))
        repeat (go_big_quiet_step (exact cB _ _))
        refine wpQuiet_nil ?_
        intro _ hw'
        obtain ⟨⟨dr, osr⟩, hw''⟩ := hw'
        subst hw''
        have hbW3 := Aside0.mk (below_then hbW2.out hbW2.out.size (below_regrown W2 dr osr))
        generalize Sort.grow (redrawn W2 dr) osr = W3 at *
        go_wp2
        go_ret
        refine ⟨?_, hbW3.out⟩
        have h9 : coversB ps (0) off len = decide (len ≤ ql.length) := by
          have h8 : decide (off + (len : Int) ≤ off + (ql.length : Int)) = decide (len ≤ ql.length) := by rw [decide_eq_decide]; omega
          simp only [coversB, HG2.out.1, HG2.out.2, h8]
          simp [c3]
        rw [h9]; rfl
      · have hq : (qo == off) = false := by simpa using fun h : qo = off => hq2 h.symm
        have hq3 : ¬ qo = off := fun h => hq2 h.symm
        go_wp2_with fail
        refine wp_region_quiet_below (by kernel_rfl) (by kernel_rfl) ?_
        repeat (go_big_quiet_step (fail))
        refine wpQuiet_nil ?_
        intro _ hw'
        obtain ⟨⟨dr, osr⟩, hw''⟩ := hw'
        subst hw''
        have hbW3 := Aside0.mk (below_then hbW2.out hbW2.out.size (below_regrown W2 dr osr))
        generalize Sort.grow (redrawn W2 dr) osr = W3 at *
        go_wp2
        go_ret
        refine ⟨?_, hbW3.out⟩
        have h9 : coversB ps (0) off len = false := by
          simp [coversB, HG2.out.1, hq]
        rw [h9]; rfl
    · have p1 : ¬ (0 : Int) < (ps.length : Int) := by omega
      have p1d : decide ((0 : Int) < (ps.length : Int)) = false := decide_eq_false p1
      go_wp2_with fail
      refine wp_region_quiet_below (by kernel_rfl) (by kernel_rfl) ?_
      repeat (go_big_quiet_step (fail))
      refine wpQuiet_nil ?_
      intro _ hw'
      obtain ⟨⟨dr, osr⟩, hw''⟩ := hw'
      subst hw''
      have hbW3 := Aside0.mk (below_then hbW2.out hbW2.out.size (below_regrown W2 dr osr))
      generalize Sort.grow (redrawn W2 dr) osr = W3 at *
      go_wp2
      go_ret
      refine ⟨?_, hbW3.out⟩
      have h9 : coversB ps (0) off len = false := by
        simp [coversB, c3]
      rw [h9]; rfl

end Go.Proofs.YtblmbbllfiigmaaDoor
