/-
  pop, walked.
-/
import Derived.Test.YtblmbbllfiigmaaDoorMid
import Derived.Test.YtblmbbllfiigmaaDoorMarsh
import Derived.Laws.MakeOwn
import Derived.Deep.DeepCutAuto
import Derived.BigQuiet
namespace Go.Proofs.YtblmbbllfiigmaaDoor
open Go.RowKit Go.Proofs.YtblmbbllfiigmaaDoorW.PrintWords Go.Proofs.YtblmbbllfiigmaaDoorW.PrintLast Go.Proofs.YtblmbbllfiigmaaDoorW.PrintMore

/-- How many bytes lie in pairs, and which. -/
def sumL (ps : List (Int × List Int)) : Int := (ps.map fun p => (p.2.length : Int)).sum
def flatD (ps : List (Int × List Int)) : List Int := ps.flatMap fun p => p.2
/-- Each pair begins where the one ahead of it ends. -/
def Tight (c : Int) : List (Int × List Int) → Prop
  | [] => True
  | p :: r => p.1 = c ∧ Tight (c + (p.2.length : Int)) r

theorem sumL_flat (ps : List (Int × List Int)) : sumL ps = ((flatD ps).length : Int) := by
  induction ps with
  | nil => rfl
  | cons p ps ih => simp [sumL, flatD] at ih ⊢; omega
theorem tight_get : ∀ (ps : List (Int × List Int)) (c : Int), Tight c ps → ∀ (k : Nat) (p : Int × List Int), ps[k]? = some p → p.1 = c + sumL (ps.take k)
  | [], _, _, k, p, h => by simp at h
  | q :: r, c, ht, 0, p, h => by
    simp at h
    subst h
    simp [sumL]
    exact ht.1
  | q :: r, c, ht, k + 1, p, h => by
    rw [List.getElem?_cons_succ] at h
    have := tight_get r _ ht.2 k p h
    simp [sumL] at this ⊢
    omega
theorem take_step {ps : List (Int × List Int)} {k : Nat} {p : Int × List Int} (h : ps[k]? = some p) : sumL (ps.take (k + 1)) = sumL (ps.take k) + (p.2.length : Int) ∧ flatD (ps.take (k + 1)) = flatD (ps.take k) ++ p.2 := by
  have hk := (List.getElem?_eq_some_iff.1 h).1
  have e : ps.take (k + 1) = ps.take k ++ [p] := by rw [List.take_succ_eq_append_getElem hk, (List.getElem?_eq_some_iff.1 h).2]
  rw [e]
  refine ⟨?_, ?_⟩
  · simp [sumL]
  · simp [flatD]

/-- A buffer behind a pop that tells a message. -/
def popSt (s : St) (f : Fr) : St := ⟨s.cur + 1, s.size - sumL f.ps, s.count - f.ps.length, s.ms.filter fun p => p.1 != s.cur⟩

theorem keys_filter (n : Nat) (xs : List Sl) : (keys xs).filter (fun p => p.1 != (n : Int)) = keys (xs.filter fun x => x.num != n) := by
  unfold keys
  rw [List.filter_map]
  congr 1
  apply List.filter_congr
  intro x _
  by_cases h : x.num = n
  · simp [h]
  · have h1 : (x.num != n) = true := by rw [bne_iff_ne]; exact h
    have h2 : ((x.num : Int) != (n : Int)) = true := by rw [bne_iff_ne]; omega
    show ((x.num : Int) != (n : Int)) = (x.num != n)
    rw [h1, h2]
theorem sts_filter (n : Nat) (xs : List Sl) : sts (xs.filter fun x => x.num != n) = (sts xs).filter fun p => p.1 != n := by
  unfold sts
  rw [List.filter_map]
  rfl

theorem pop_fin {w w' : World} {base Z M : Nat} {xs : List Sl} {cur : Nat} {sz ct sz' ct' : Int} (hx : BufX w base Z M xs cur sz ct) (hb : base ≤ w.heap.size) (n1 : w'.os = w.os) (n2 : w'.tape = w.tape) (n3 : w'.output = w.output) (n4 : w.heap.size ≤ w'.heap.size)
    (hn : ∀ k, k < w.heap.size → k ≠ Z → k ≠ M → w'.heap[k]? = w.heap[k]?) (hz : w'.heap[Z]? = some (.cells [.map (some M), .int .u16 (cur + 1 : Nat), .int .i64 sz', .int .i64 ct'].toArray 86)) (hm : HasMap .u16 w' M ((keys xs).filter fun p => p.1 != (cur : Int))) :
    BufX w' base Z M (xs.filter fun x => x.num != cur) (cur + 1) sz' ct' ∧ KeepT base w w' := by
  obtain ⟨es, cl, hM, _⟩ := hx.m.ex
  have k5 : Keep5 w w' := fun b cells m h => hn b (ltB h) (fun e => by
    subst e
    rw [hx.z] at h
    injection h with h
    injection h with _ h
    exact absurd h (by decide)) (fun e => by
    subst e
    rw [hM] at h
    cases h)
  refine ⟨⟨hz, by rw [← keys_filter]; exact hm, fun y hy => ?_, hx.sep.sublist List.filter_sublist, hx.bz, hx.bm⟩, ⟨⟨n1, n2, n3, n4, fun k hk => hn k (by omega) (by have := hx.bz; omega) (by have := hx.bm; omega)⟩, fun k cells t m h h1 _ _ => hn k (ltB h) (fun e => ?_) (fun e => by subst e; rw [hM] at h; cases h)⟩⟩
  · obtain ⟨a, b, c⟩ := hx.fr y (List.mem_filter.1 hy).1
    refine ⟨a, (hn _ (ltB b) (cellsNe b hx.z (by decide)) (mapNe hx.m b)).trans b, c.move (fun k hk => ?_) k5⟩
    obtain ⟨_, hlt, c1, hc1⟩ := c.own k hk
    exact hn k hlt (cellsNe hc1 hx.z (by decide)) (mapNe hx.m hc1)
  · subst e
    rw [hx.z] at h
    injection h with h
    injection h with _ h
    exact h1 h.symm

set_option maxRecDepth 100000 in
set_option maxHeartbeats 1000000 in
theorem pop_none (Z base : Nat) (s : St) (w : World) (hbuf : BufAt w base Z s) (hcur : s.cur < 65536) (hno : ∀ f, lookF s.cur s.ms = some f → f.cov < (f.len : Int)) :
    Calls Tryd.prog 32 #[.pointer (some ⟨Z, 0, none⟩)] w fun e w' => e = .returned (.tuple #[.slice none 0 0, .int .u16 0]) ∧ Below w.heap.size w w' := by
  obtain ⟨M, xs, hx, hms⟩ := hbuf
  have z0 : w.cell? ⟨Z, 0, none⟩ = some (.map (some M)) := cellB hx.z 0
  have z1 : w.cell? ⟨Z, 1, none⟩ = some (.int .u16 s.cur) := cellB hx.z 1
  have hlook : (Instr.lookup 84 (.map (some M)) (.int .u16 s.cur) true).run Tryd.prog w.drew = .ok (.tuple #[(look (s.cur : Int) (keys xs)).getD (.pointer none), .bool (look (s.cur : Int) (keys xs)).isSome]) w.drew := (hx.below (below_drew (Below.refl _ w))).look s.cur hcur
  rw [← hms] at hno
  have HX := Aside0.mk hx
  have HNO := Aside0.mk hno
  generalize hpv : (look (s.cur : Int) (keys xs)).getD (.pointer none) = PV at *
  generalize hqv : (look (s.cur : Int) (keys xs)).isSome = QV at *
  have HPV := Aside0.mk hpv
  have HQV := Aside0.mk hqv
  clear hx hms hno hpv hqv
  go_enter Tryd.func32, Tryd.ntmps32
  go_upto_region 1 with fail
  go_cut [4, 5] (fun p q wx => p = PV ∧ q = .bool QV ∧ wx = w.drew)
  case first =>
    go_region
    all_goals (go_wp2_with fail; go_meet; exact ⟨rfl, rfl, rfl⟩)
  case rest =>
    obtain ⟨hp, hq, hwc⟩ := hcut
    rw [hp, hq, hwc]
    clear hp hq hwc hlook
    cases hl : lookF s.cur (sts xs) with
    | none =>
      have e1 : PV = .pointer none := by rw [← HPV.out, lookF_none hl]; rfl
      have e2 : QV = false := by rw [← HQV.out, lookF_none hl]; rfl
      clear hl
      subst e1 e2
      go_wp2_with fail
      go_quiet (fail)
      go_wp2
      go_ret2
      exact ⟨rfl, Below.trans (below_drew (Below.refl _ w)) (pw_below_drewN (Below.refl _ w.drew) nq)⟩
    | some f =>
      obtain ⟨a', x, b', hx1, hx2, hx3, hx4, hx5⟩ := lookF_some hl
      have e1 : PV = .pointer (some ⟨x.F, 0, none⟩) := by rw [← HPV.out, hx5]; rfl
      have e2 : QV = true := by rw [← HQV.out, hx5]; rfl
      have hlt := HNO.out f hl
      obtain ⟨x1, x2, x3⟩ := HX.out.fr x (by rw [hx1]; simp)
      have j1 : w.cell? ⟨x.F, 1, none⟩ = some (.int .u32 f.cov) := by rw [cellB x2 1, hx3]; rfl
      have j3 : w.cell? ⟨x.F, 3, none⟩ = some (.int .u32 f.len) := by rw [cellB x2 3, hx3]; rfl
      clear hl hx1 hx2 hx3 hx4 hx5 x1 x2 x3
      subst e1 e2
      have hltd : decide (f.cov < (f.len : Int)) = true := decide_eq_true hlt
      go_wp2_with fail
      go_quiet (fail)
      go_wp2
      go_ret2
      exact ⟨rfl, Below.trans (below_drew (Below.refl _ w)) (pw_below_drewN (Below.refl _ w.drew) nq)⟩

/-- The bytes of the message that comes out. -/
def outF (f : Fr) (t n sq : Nat) : List Int := hdr12 t n sq 0 n ++ flatD f.ps

theorem infoB5 : (Tryd.prog.info? 5).map (fun i => (i.zero, i.size, i.bytes)) = some (some (.int .u8 0), 1, 1) := by kernel_rfl

theorem make5 (base : Nat) (w : World) (c : Nat) (hc : c ≤ 1000000) (hb : base ≤ w.heap.size) : ∃ w', (Instr.makeSlice 59 (.int .i64 0) (.int .i64 (c : Int))).run Tryd.prog w = .ok (.slice (some ⟨w.heap.size, 0, none⟩) 0 c) w' ∧
    w'.ownsRow base 5 1 (.slice (some ⟨w.heap.size, 0, none⟩) 0 c) 0 [] ∧ w.grownBy w' none := by
  obtain ⟨i, hi, hz⟩ := Option.map_eq_some_iff.1 infoB5
  simp only [Prod.mk.injEq] at hz
  exact run_makeSlice_owned w base 59 5 i (.int .u8 0) 1 Tryd.underlying59 hi hz.1 hz.2.1 .i64 .i64 c (by omega) (by rw [hz.2.2]; omega) (by simp [maxLen]; omega) hb
theorem reads_of_byt {w : World} {b o : Nat} {l : List Int} (h : BytAt w b o l) (hl : l.length ≤ 9223372036854775807) : ReadsOf (Value.int .u8) (0 : Int) w (some ⟨b, o, none⟩) l.length l :=
  ⟨rfl, hl, fun _ => ⟨_, rfl, fun j hj => by rw [add_off]; exact h j hj⟩⟩
theorem reads_of_dat {w : World} {A : Option Addr} {n c : Nat} {l : List Int} (h : DatAt w (.slice A n c) l) (hl : l.length ≤ 9223372036854775807) : ReadsOf (Value.int .u8) (0 : Int) w A l.length l := by
  obtain ⟨A2, c2, e, h1, h2⟩ := h
  injection e with e1 e2 _
  subst e1
  refine ⟨rfl, hl, fun h0 => ?_⟩
  obtain ⟨b, o, e3, hb, _⟩ := h2 h0
  exact ⟨_, e3, fun j hj => by rw [add_off]; exact hb j hj⟩
theorem hdr_byt {w : World} {b : Nat} {l : List Int} (h : w.heap[b]? = some (.cells (l.map (Value.int .u8)).toArray 5)) : BytAt w b 0 l := fun i hi => by
  rw [cellB h, Nat.zero_add, List.getElem?_map, List.getElem?_eq_getElem hi, List.getD_eq_getElem?_getD, List.getElem?_eq_getElem hi]; rfl

theorem sumL_le (ps : List (Int × List Int)) (k : Nat) : sumL (ps.take k) ≤ sumL ps := by
  rw [sumL_flat, sumL_flat]
  have e : flatD ps = flatD (ps.take k) ++ flatD (ps.drop k) := by
    unfold flatD
    rw [← List.flatMap_append, List.take_append_drop]
  rw [e, List.length_append]
  omega

theorem hg5_box {w w1 : World} {base n b : Nat} {v : Value} {xs : List Value} {l : Array Value} (hg : w.grownBy w1 v.ownBlock) (ho : w.ownsRow base 5 1 v n xs) (hb : w.heap[b]? = some (.cells l 107)) : w1.heap[b]? = w.heap[b]? :=
  hg.block b (ltB hb) (fun e => by
    obtain ⟨c, hc⟩ := own_typed ho b e.symm
    exact cellsNe hc hb (by decide) rfl)

theorem grown_on {w a b : World} {r : Nat} (h : w.grownBy a (some r)) (k : Below w.heap.size a b) : w.grownBy b (some r) :=
  ⟨k.os.trans h.os, k.tape.trans h.tape, k.output.trans h.output, Nat.le_trans h.size k.size, fun i hi hne => (k.block i hi).trans (h.block i hi hne)⟩

/-- Where the loop of pop stands. -/
structure PopRel (w : World) (Z M cur : Nat) (sz ct : Int) (ps : List (Int × List Int)) (hdr : List Int) (k : Nat) (A : Option Addr) (c : Nat) (wr : World) : Prop where
  own : wr.ownsRow w.heap.size 5 1 (.slice A (hdr ++ flatD (ps.take k)).length c) (hdr ++ flatD (ps.take k)).length (encs (Value.int .u8) (hdr ++ flatD (ps.take k)))
  gr : w.grownBy wr (some Z)
  z : wr.heap[Z]? = some (.cells [.map (some M), .int .u16 cur, .int .i64 (sz - sumL (ps.take k)), .int .i64 ct].toArray 86)
theorem grown_append {w W w1 : World} {v : Value} (h : Below w.heap.size w W) (hg : W.grownBy w1 v.ownBlock) (hv : ∀ k, v.ownBlock = some k → w.heap.size ≤ k) : Below w.heap.size w w1 :=
  ⟨hg.os.trans h.os, hg.tape.trans h.tape, hg.output.trans h.output, Nat.le_trans h.size hg.size, fun k hk => (hg.block k (Nat.lt_of_lt_of_le hk h.size) (fun e => by have := hv k e.symm; omega)).trans (h.block k hk)⟩
theorem RowAt.grownZ {w wr : World} {base Z : Nat} {v : Value} {ps : List (Int × List Int)} (h : RowAt w base v ps) (hg : w.grownBy wr (some Z)) {l : Array Value} (hz : w.heap[Z]? = some (.cells l 86)) : RowAt wr base v ps :=
  h.move (fun k hk => by
    obtain ⟨_, hlt, c1, hc1⟩ := h.own k hk
    exact hg.block k hlt (fun e => by injection e with e; exact cellsNe hc1 hz (by decide) e)) (Keep5.grown hg (fun b cells m e => by
    injection e with e
    subst e
    rw [hz]
    intro e
    injection e with e
    injection e with _ e
    exact absurd e (by decide)))

/-- Where pop stands behind its loop. -/
structure PopE (w : World) (Z M : Nat) (v : Value) (bs : List Int) (L : List (Int × Value)) (zc : List Value) (w' : World) : Prop where
  own : w'.ownsRow w.heap.size 5 1 v bs.length (encs (Value.int .u8) bs)
  os : w'.os = w.os
  tape : w'.tape = w.tape
  output : w'.output = w.output
  size : w.heap.size ≤ w'.heap.size
  block : ∀ k, k < w.heap.size → k ≠ Z → k ≠ M → w'.heap[k]? = w.heap[k]?
  z : w'.heap[Z]? = some (.cells zc.toArray 86)
  map : HasMap .u16 w' M L
theorem PopE.drew {w : World} {Z M : Nat} {v : Value} {bs : List Int} {L : List (Int × Value)} {zc : List Value} {w' : World} (h : PopE w Z M v bs L zc w') : PopE w Z M v bs L zc w'.drew :=
  ⟨own_move h.own (fun _ _ => rfl), h.os, h.tape, h.output, h.size, h.block, h.z, h.map.move rfl⟩
theorem PopE.setZ {w : World} {Z M : Nat} {v : Value} {bs : List Int} {L : List (Int × Value)} {zc : List Value} {w' : World} (h : PopE w Z M v bs L zc w') (j : Nat) (u : Value) : PopE w Z M v bs L (zc.set j u) (w'.setCell ⟨Z, j, none⟩ u) := by
  have hg := grB w' Z j u
  refine ⟨own_move h.own (fun k hk => ?_), hg.os.trans h.os, hg.tape.trans h.tape, hg.output.trans h.output, Nat.le_trans h.size hg.size, fun k hk h1 h2 => (hg.block k (Nat.lt_of_lt_of_le hk h.size) (fun e => by injection e with e; exact h1 e)).trans (h.block k hk h1 h2), blk_setL h.z j u, h.map.move (Below.heap_setCell w' ⟨Z, j, none⟩ u M (fun e => mapNe h.map h.z e.symm))⟩
  obtain ⟨c, hc⟩ := own_typed h.own k hk
  exact Below.heap_setCell w' ⟨Z, j, none⟩ u k (fun e => cellsNe hc h.z (by decide) e)
theorem PopE.setM {w : World} {Z M : Nat} {v : Value} {bs : List Int} {L L' : List (Int × Value)} {zc : List Value} {w' w'' : World} (h : PopE w Z M v bs L zc w') (hm : HasMap .u16 w'' M L') (hg : w'.grownBy w'' (some M)) : PopE w Z M v bs L' zc w'' := by
  refine ⟨own_move h.own (fun k hk => ?_), hg.os.trans h.os, hg.tape.trans h.tape, hg.output.trans h.output, Nat.le_trans h.size hg.size, fun k hk h1 h2 => (hg.block k (Nat.lt_of_lt_of_le hk h.size) (fun e => by injection e with e; exact h2 e)).trans (h.block k hk h1 h2), (hg.block Z (ltB h.z) (fun e => by injection e with e; exact mapNe h.map h.z e)).trans h.z, hm⟩
  obtain ⟨c, hc⟩ := own_typed h.own k hk
  exact hg.block k (own_lt h.own k hk) (fun e => by injection e with e; exact mapNe h.map hc e)

set_option maxRecDepth 100000 in
set_option maxHeartbeats 4000000 in
theorem pop_some (Z base : Nat) (s : St) (f : Fr) (t n sq : Nat) (w : World) (hbuf : BufAt w base Z s) (hcur : s.cur + 1 < 65536) (hl : lookF s.cur s.ms = some f) (hc : (f.len : Int) ≤ f.cov) (e0 : f.h0 = t) (e1 : f.h1 = n) (e2 : f.h2 = sq) (hn : n < 16777216) (hsq : sq < 65536)
    (ht : Tight 0 f.ps) (hsm : Small f.ps) (hpn : f.ps.length ≤ 10000) (hlen : f.len ≤ 100000) (hsum : sumL f.ps ≤ 100000) (hs0 : 0 ≤ s.size) (hs1 : s.size ≤ 1000000) (hc0 : 0 ≤ s.count) (hc1 : s.count ≤ 1000000) (hbase : base ≤ w.heap.size) :
    Calls Tryd.prog 32 #[.pointer (some ⟨Z, 0, none⟩)] w fun e w' => ∃ v, e = .returned (.tuple #[v, .int .u16 f.ep]) ∧ w'.ownsRow w.heap.size 5 1 v (outF f t n sq).length (encs (Value.int .u8) (outF f t n sq)) ∧ BufAt w' base Z (popSt s f) ∧ KeepT base w w' := by
  obtain ⟨M, xs, hx, hms⟩ := hbuf
  have z0 : w.cell? ⟨Z, 0, none⟩ = some (.map (some M)) := cellB hx.z 0
  have z1 : w.cell? ⟨Z, 1, none⟩ = some (.int .u16 s.cur) := cellB hx.z 1
  rw [← hms] at hl
  obtain ⟨a', x, b', hx1, hx2, hx3, hx4, hx5⟩ := lookF_some hl
  obtain ⟨x1, x2, x3⟩ := hx.fr x (by rw [hx1]; simp)
  rw [hx3] at x2 x3
  have hlook : (Instr.lookup 84 (.map (some M)) (.int .u16 s.cur) true).run Tryd.prog w.drew = .ok (.tuple #[.pointer (some ⟨x.F, 0, none⟩), .bool true]) w.drew := by
    have h := (hx.below (below_drew (Below.refl _ w))).look s.cur (by omega)
    rw [hx5] at h
    exact h
  have HX := Aside0.mk hx
  have HMS := Aside0.mk hms
  generalize x.F = F at *
  generalize x.v = V at *
  obtain ⟨AV, cV, rfl⟩ := x3.slice
  have HF := Aside0.mk x2
  have HROW := Aside0.mk x3
  have HT := Aside0.mk ht
  have HSM := Aside0.mk hsm
  have HBASE := Aside0.mk hbase
  have HSUM := Aside0.mk hsum
  have j1 : w.cell? ⟨F, 1, none⟩ = some (.int .u32 f.cov) := cellB x2 1
  have j3 : w.cell? ⟨F, 3, none⟩ = some (.int .u32 f.len) := cellB x2 3
  have j4 : w.cell? ⟨F, 4, none⟩ = some (.int .u8 t) := by rw [cellB x2 4, ← e0]; rfl
  have j5 : w.cell? ⟨F, 5, none⟩ = some (.int .u32 n) := by rw [cellB x2 5, ← e1]; rfl
  have j6 : w.cell? ⟨F, 6, none⟩ = some (.int .u16 sq) := by rw [cellB x2 6, ← e2]; rfl
  have j7 : w.cell? ⟨F, 7, none⟩ = some (.int .u32 f.h3) := cellB x2 7
  have j8 : w.cell? ⟨F, 8, none⟩ = some (.int .u32 f.h4) := cellB x2 8
  have hltd : decide (f.cov < (f.len : Int)) = false := decide_eq_false (by omega)
  clear hx hms hl hx1 hx2 hx3 hx4 hx5 x1 x2 x3 ht hsm hbase hsum e0 e1 e2
  go_enter Tryd.func32, Tryd.ntmps32
  go_upto_region 1 with fail
  go_cut [4, 5] (fun p q wx => p = .pointer (some ⟨F, 0, none⟩) ∧ q = .bool true ∧ wx = w.drew)
  case first =>
    go_region
    all_goals (go_wp2_with fail; go_meet; exact ⟨rfl, rfl, rfl⟩)
  case rest =>
    obtain ⟨hp, hq, hwc⟩ := hcut
    rw [hp, hq, hwc]
    clear hp hq hwc hlook
    go_wp2_with fail
    go_quiet (fail)
    have HB1 : Aside0 (Below w.heap.size w (w.drew.drewN nq)) := ⟨Below.trans (below_drew (Below.refl _ w)) (pw_below_drewN (Below.refl _ w.drew) nq)⟩
    have i3 : (w.drew.drewN nq).cell? ⟨F, 3, none⟩ = some (.int .u32 f.len) := j3
    have i4 : (w.drew.drewN nq).cell? ⟨F, 4, none⟩ = some (.int .u8 t) := j4
    have i5 : (w.drew.drewN nq).cell? ⟨F, 5, none⟩ = some (.int .u32 n) := j5
    have i6 : (w.drew.drewN nq).cell? ⟨F, 6, none⟩ = some (.int .u16 sq) := j6
    have i7 : (w.drew.drewN nq).cell? ⟨F, 7, none⟩ = some (.int .u32 f.h3) := j7
    have i8 : (w.drew.drewN nq).cell? ⟨F, 8, none⟩ = some (.int .u32 f.h4) := j8
    clear j1 j3 j4 j5 j6 j7 j8 z0 z1
    generalize w.drew.drewN nq = w1 at *
    go_wp2_with fail
    have HBW : Aside0 (Below w1.heap.size w1 (w1.alloc (.cells [.int .u8 t, .int .u32 n, .int .u16 sq, .int .u32 0, .int .u32 n].toArray 96))) := ⟨below_alloc (Below.refl _ w1) _⟩
    have HHB := Aside0.mk (blk_new w1 (.cells [.int .u8 t, .int .u32 n, .int .u16 sq, .int .u32 0, .int .u32 n].toArray 96))
    have HBW0 : Aside0 (Below w.heap.size w (w1.alloc (.cells [.int .u8 t, .int .u32 n, .int .u16 sq, .int .u32 0, .int .u32 n].toArray 96))) := ⟨below_then HB1.out HB1.out.size HBW.out⟩
    have i3' := pw_cell_below HBW.out i3
    clear i3 i4 i5 i6 i7 i8
    generalize w1.alloc (.cells [.int .u8 t, .int .u32 n, .int .u16 sq, .int .u32 0, .int .u32 n].toArray 96) = W at *
    refine (marsh_any w1.heap.size t n sq 0 n W HHB.out hn hsq (by omega) hn).mono ?_
    rintro e w2 ⟨rfl, hb2, hh2⟩
    have HB2 : Aside0 (Below w.heap.size w w2) := ⟨below_then HBW0.out HBW0.out.size hb2⟩
    have HHD : Aside0 (BytAt w2 W.heap.size 0 (hdr12 t n sq 0 n)) := ⟨hdr_byt hh2⟩
    have i3 := pw_cell_below hb2 i3'
    have hWW : W.heap.size < w2.heap.size := ltB hh2
    have HWW := Aside0.mk hWW
    clear hb2 hh2 i3' HBW HBW0 HHB HB1 hWW
    obtain ⟨w3, hrun, hown, hg3⟩ := make5 w.heap.size w2 (12 + f.len) (by omega) HB2.out.size
    have hcast : ((12 + f.len : Nat) : Int) = 12 + (f.len : Int) := by omega
    rw [hcast] at hrun
    have f1 : IntKind.i64.wrap (f.len : Int) = (f.len : Int) := by rw [IntKind.wrap_i64]; omega
    have f2 : IntKind.i64.wrap (12 + (f.len : Int)) = 12 + (f.len : Int) := by rw [IntKind.wrap_i64]; omega
    have HB3 : Aside0 (Below w2.heap.size w2 w3) := ⟨⟨hg3.os, hg3.tape, hg3.output, hg3.size, fun k hk => hg3.block k hk (by simp)⟩⟩
    have HOWN := Aside0.mk hown
    clear hown hg3 hcast
    have HB3w : Aside0 (Below w.heap.size w w3) := ⟨below_then HB2.out HB2.out.size HB3.out⟩
    have HHD3 : Aside0 (BytAt w3 W.heap.size 0 (hdr12 t n sq 0 n)) := ⟨HHD.out.below HB3.out⟩
    go_upto_region 11 with ((with_reducible refine gate_builtin (b := .append) (xs := #[.tmp 58, .tmp 59]) rfl ?_); at_builtin; refine print_append_row_of (w0 := w) (Value.int .u8) (0 : Int) w.heap.size rfl (.tmp 58) (.tmp 59) 59 5 (.int .u8 0) 1 rfl Tryd.underlying59 infoB5 rfl (by decide) (fun _ => rfl) (.slice (some ⟨w2.heap.size, 0, none⟩) 0 (12 + f.len)) [] (hdr12 t n sq 0 n) (some ⟨W.heap.size, 0, none⟩) 12 12 rfl rfl ?bO ?bR ?bB ?bS ?bL ?_; (case bO => exact HOWN.out); (case bR => exact reads_of_byt HHD3.out (by simp [hdr12])); (case bB => exact HB3w.out); (case bS => exact HB3w.out.size); (case bL => simp); intro v4 w4 ho hb hg hat; have HO4 := Aside0.mk ho; have HB4 := Aside0.mk (grown_append HB3w.out hg (fun k hk => by simp [Value.ownBlock] at hk; have := HB2.out.size; omega)); clear ho hb hg hat)
    obtain ⟨A4, c4, hv4⟩ := own_slice HO4.out
    subst hv4
    have HZ4 : Aside0 (w4.heap[Z]? = some (.cells [.map (some M), .int .u16 s.cur, .int .i64 s.size, .int .i64 s.count].toArray 86)) := ⟨(HB4.out.block Z (ltB HX.out.z)).trans HX.out.z⟩
    have i0 : w4.cell? ⟨F, 0, none⟩ = some (.slice AV f.ps.length cV) := pw_cell_below HB4.out (cellB HF.out 0)
    have HREL0 : Aside0 (PopRel w Z M s.cur s.size s.count f.ps (hdr12 t n sq 0 n) 0 A4 c4 w4) := ⟨⟨by simpa [flatD] using HO4.out, grown_of_below HB4.out _, by simpa [sumL] using HZ4.out⟩⟩
    clear hrun f1 f2 i3 HB3 HB3w HHD HHD3 HOWN HB2 HWW HO4 HZ4 HB4
    have hpn' : f.ps.length ≤ 10000 := hpn
    go_wp2_with fail
    go_loopw [2, 9, 66] (fun v2 v9 v66 wr => ∃ (k : Nat) (A : Option Addr) (c : Nat) (m : Int) (L : Nat), k ≤ f.ps.length ∧ v66 = .int .i64 k ∧ v9 = .int .u32 m ∧ v2 = .slice A L c ∧ Aside0 (m = sumL (f.ps.take k)) ∧ Aside0 (L = (hdr12 t n sq 0 n ++ flatD (f.ps.take k)).length) ∧ Aside0 (PopRel w Z M s.cur s.size s.count f.ps (hdr12 t n sq 0 n) k A c wr)) (fun _ _ v66 _ => f.ps.length - (intOf v66).toNat)
    case atStart => exact ⟨0, A4, c4, 0, _, by omega, rfl, rfl, rfl, ⟨rfl⟩, ⟨rfl⟩, HREL0⟩
    case round =>
      clear HREL0 i0
      obtain ⟨k, A, c, m, L, hk, rfl, rfl, rfl, hm, hL, hrel⟩ := hrel
      by_cases hlt : k < f.ps.length
      · have hp : f.ps[k]? = some f.ps[k] := List.getElem?_eq_getElem hlt
        have hrow := HROW.out.grownZ hrel.out.gr HX.out.z
        obtain ⟨g', cap', A2, c2, e1, b0, b1, hd2⟩ := hrow.get k _ hp
        have hsk := HSM.out _ (List.getElem_mem hlt)
        have htg := tight_get f.ps 0 HT.out k _ hp
        have hst := take_step hp
        generalize hpk : f.ps[k] = p at *
        obtain ⟨po, pl⟩ := p
        have hpo : po = m := by rw [hm.out]; simpa using htg
        subst hpo
        injection e1 with e1 _ e2
        subst e1 e2
        have HSK := Aside0.mk hsk
        have HST := Aside0.mk hst
        have HD2 := Aside0.mk hd2
        have hb2 : (po : Int) + (pl.length : Int) < 4294967296 := hsk.2
        have p1 : (0 : Int) ≤ (k : Int) := by omega
        have p2 : (k : Int) < (f.ps.length : Int) := by omega
        clear hp hrow hsk htg hst hpk hd2
        go_upto_region 14 with fail
        have HBQ : Aside0 (Below wr.heap.size wr (wr.alloc (.cells [.int .u32 po, .slice A2 pl.length c2].toArray 107))) := ⟨below_alloc (Below.refl _ wr) _⟩
        have HBOX := Aside0.mk (blk_new wr (.cells [.int .u32 po, .slice A2 pl.length c2].toArray 107))
        clear b0 b1
        generalize wr.alloc (.cells [.int .u32 po, .slice A2 pl.length c2].toArray 107) = wq at *
        have b0 : wq.cell? ⟨wr.heap.size, 0, none⟩ = some (.int .u32 po) := cellB HBOX.out 0
        have b1 : wq.cell? ⟨wr.heap.size, 1, none⟩ = some (.slice A2 pl.length c2) := cellB HBOX.out 1
        have f0 : IntKind.u32.wrap 0 = 0 := by decide
        have f1 : IntKind.u32.wrap (po - po) = 0 := by rw [Int.sub_self]; decide
        have HDQ : Aside0 (DatAt wq (.slice A2 pl.length c2) pl) := ⟨HD2.out.below HBQ.out⟩
        have HOQ : Aside0 (wq.ownsRow w.heap.size 5 1 (.slice A L c) (hdr12 t n sq 0 n ++ flatD (f.ps.take k)).length (encs (Value.int .u8) (hdr12 t n sq 0 n ++ flatD (f.ps.take k)))) := ⟨by
          rw [hL.out]
          exact own_move hrel.out.own (fun j hj => HBQ.out.block j (own_lt hrel.out.own j hj))⟩
        have HQS : Aside0 (w.heap.size ≤ wq.heap.size) := ⟨Nat.le_trans hrel.out.gr.size HBQ.out.size⟩
        have HLL : Aside0 ((hdr12 t n sq 0 n ++ flatD (f.ps.take k)).length + pl.length ≤ 100012 + 4294967296) := ⟨by
          have h1 : ((flatD (f.ps.take k)).length : Int) ≤ 100000 := by rw [← sumL_flat]; exact Int.le_trans (sumL_le f.ps k) HSUM.out
          rw [List.length_append]
          have : (hdr12 t n sq 0 n).length = 12 := rfl
          have := HSK.out
          omega⟩
        go_upto_region 15 with ((with_reducible refine gate_builtin (b := .append) (xs := #[.tmp 70, .tmp 77]) rfl ?_); at_builtin; refine print_append_row_of (w0 := wq) (Value.int .u8) (0 : Int) w.heap.size rfl (.tmp 70) (.tmp 77) 59 5 (.int .u8 0) 1 rfl Tryd.underlying59 infoB5 rfl (by decide) (fun _ => rfl) (.slice A L c) (hdr12 t n sq 0 n ++ flatD (f.ps.take k)) pl A2 pl.length c2 rfl rfl ?bO ?bR ?bB ?bS ?bL ?_; (case bO => exact HOQ.out); (case bR => exact reads_of_dat HDQ.out (by have := HSK.out; omega)); (case bB => exact Below.refl _ wq); (case bS => exact HQS.out); (case bL => have := HLL.out; omega); intro v5 w5 ho hb hg hat; have HO5 := Aside0.mk ho; have HB5 := Aside0.mk hb; have HG5 := Aside0.mk hg; clear ho hb hg hat)
        obtain ⟨A5, c5, hv5⟩ := own_slice HO5.out
        subst hv5
        have HL5 : Aside0 ((hdr12 t n sq 0 n ++ flatD (f.ps.take k) ++ pl) = hdr12 t n sq 0 n ++ flatD (f.ps.take (k + 1))) := ⟨by rw [HST.out.2, List.append_assoc]⟩
        have hbox5 : w5.heap[wr.heap.size]? = some (.cells [.int .u32 po, .slice A2 pl.length c2].toArray 107) := by
          have h1 := hg5_box HG5.out HOQ.out HBOX.out
          exact h1.trans HBOX.out
        have HBOX5 := Aside0.mk hbox5
        have b0 : w5.cell? ⟨wr.heap.size, 0, none⟩ = some (.int .u32 po) := cellB hbox5 0
        have b1 : w5.cell? ⟨wr.heap.size, 1, none⟩ = some (.slice A2 pl.length c2) := cellB hbox5 1
        have HZ5 : Aside0 (w5.heap[Z]? = some (.cells [.map (some M), .int .u16 s.cur, .int .i64 (s.size - sumL (f.ps.take k)), .int .i64 s.count].toArray 86)) := ⟨by
          have h1 := (HBQ.out.block Z (ltB hrel.out.z)).trans hrel.out.z
          exact (HB5.out.block Z (ltB HX.out.z)).trans h1⟩
        have HGR5 : Aside0 (w.grownBy w5 (some Z)) := ⟨grown_on (World.grownBy.trans hrel.out.gr (grown_of_below HBQ.out _)) HB5.out⟩
        clear hbox5
        go_wp2_with fail
        refine (end_any po A2 pl.length c2 w5 HSK.out.1 HSK.out.2).mono ?_
        rintro e w6 ⟨rfl, hb6⟩
        have HB6 := Aside0.mk hb6
        have hbx6 := (hb6.block _ (ltB HBOX5.out)).trans HBOX5.out
        have hz6 := (hb6.block Z (ltB HZ5.out)).trans HZ5.out
        have b1 : w6.cell? ⟨wr.heap.size, 1, none⟩ = some (.slice A2 pl.length c2) := cellB hbx6 1
        have z2 : w6.cell? ⟨Z, 2, none⟩ = some (.int .i64 (s.size - sumL (f.ps.take k))) := cellB hz6 2
        have zf := fun j => frozB hz6 j
        have HZ6 := Aside0.mk hz6
        have hsl : 0 ≤ sumL (f.ps.take k) ∧ sumL (f.ps.take k) ≤ 100000 := ⟨by rw [sumL_flat]; omega, Int.le_trans (sumL_le f.ps k) HSUM.out⟩
        have HSS : Aside0 (s.size - sumL (f.ps.take k) - (pl.length : Int) = s.size - sumL (f.ps.take (k + 1))) := ⟨by rw [HST.out.1]; omega⟩
        generalize sumL (f.ps.take k) = SK at *
        have f2 : IntKind.i64.wrap (s.size - SK - (pl.length : Int)) = s.size - SK - (pl.length : Int) := by have := HSK.out; rw [IntKind.wrap_i64]; omega
        clear hb6 hbx6 hz6 hsl
        go_upto_region 16 with fail
        go_region
        all_goals
          have HN : Aside0 (PopRel w Z M s.cur s.size s.count f.ps (hdr12 t n sq 0 n) (k + 1) A5 c5 ((w6.setCell ⟨Z, 2, none⟩ (.int .i64 (s.size - SK - (pl.length : Int)))).drew)) := ⟨by
            refine ⟨?_, ?_, ?_⟩
            · have ho := HO5.out
              rw [HL5.out] at ho
              exact own_move ho (fun j hj => by
                obtain ⟨c5', hc5⟩ := own_typed ho j hj
                exact (Below.heap_setCell w6 ⟨Z, 2, none⟩ _ j (fun e2 => cellsNe hc5 HZ5.out (by decide) e2)).trans (HB6.out.block j (own_lt ho j hj)))
            · exact World.grownBy.trans (World.grownBy.trans (World.grownBy.trans HGR5.out (grown_of_below HB6.out _)) (grB w6 Z 2 _)) (grDrew _ _)
            · have h := blk_setL HZ6.out 2 (.int .i64 (s.size - SK - (pl.length : Int)))
              rw [← HSS.out]
              exact h⟩
          have HKN : Aside0 (po + (pl.length : Int) = sumL (f.ps.take (k + 1))) := ⟨by rw [HST.out.1, hm.out]⟩
          clear HX HF HROW HO5 HB5 HG5 HGR5 HBOX5 HZ5 HZ6 HB6 hrel b0 b1 z2 zf f2
          generalize (w6.setCell ⟨Z, 2, none⟩ (.int .i64 (s.size - SK - (pl.length : Int)))).drew = w7 at *
          go_wp2_with fail
          go_roundw
          case rel =>
            (repeat apply Exists.intro)
            exact ⟨⟨k + 1, A5, c5, _, _, by omega, by go_num, rfl, rfl, HKN, ⟨by rw [← HL5.out]; simp⟩, HN⟩, rfl⟩
          case measure => simp [intOf]; omega
      · have hkn : k = f.ps.length := by omega
        subst hkn
        have HTK : Aside0 (f.ps.take f.ps.length = f.ps) := ⟨List.take_length⟩
        have HR := hrel
        have hRz := hrel.out.z
        have hRo := hrel.out.own
        rw [HTK.out] at hL hRz hRo
        have HRZ := Aside0.mk hRz
        have HRO := Aside0.mk hRo
        clear hm hrel hRz hRo
        have q2 : ¬ (f.ps.length : Int) < (f.ps.length : Int) := by omega
        have z3 : wr.cell? ⟨Z, 3, none⟩ = some (.int .i64 s.count) := cellB HR.out.z 3
        have zf := fun j => frozB HR.out.z j
        have f0 : wr.cell? ⟨F, 0, none⟩ = some (.slice AV f.ps.length cV) := cellB ((HR.out.gr.block F (ltB HF.out) (fun e => by injection e with e; exact cellsNe HF.out HX.out.z (by decide) e)).trans HF.out) 0
        have g1 : IntKind.i64.wrap (s.count - (f.ps.length : Int)) = s.count - (f.ps.length : Int) := by rw [IntKind.wrap_i64]; omega
        have HFR : Aside0 (wr.heap[F]? = w.heap[F]?) := ⟨HR.out.gr.block F (ltB HF.out) (fun e => by injection e with e; exact cellsNe HF.out HX.out.z (by decide) e)⟩
        have HMR : Aside0 (HasMap .u16 wr M (keys xs)) := ⟨HX.out.m.move (HR.out.gr.block M HX.out.m.lt (fun e => by injection e with e; exact mapNe HX.out.m HX.out.z e.symm))⟩
        go_upto_region 18 with fail
        go_cut [] (fun wx => wx = wr.drew.setCell ⟨Z, 3, none⟩ (.int .i64 (s.count - (f.ps.length : Int))))
        case first =>
          go_region
          all_goals (go_wp2_with fail; go_meet; rfl)
        case rest =>
          obtain rfl := hcut
          have HE1 : Aside0 (PopE w Z M (.slice A L c) (outF f t n sq) (keys xs) [.map (some M), .int .u16 s.cur, .int .i64 (s.size - sumL f.ps), .int .i64 (s.count - (f.ps.length : Int))] (wr.drew.setCell ⟨Z, 3, none⟩ (.int .i64 (s.count - (f.ps.length : Int))))) := ⟨by
            have hgr := HR.out.gr
            have h0 : PopE w Z M (.slice A L c) (outF f t n sq) (keys xs) [.map (some M), .int .u16 s.cur, .int .i64 (s.size - sumL f.ps), .int .i64 s.count] wr :=
              ⟨by rw [hL.out]; exact HRO.out, hgr.os, hgr.tape, hgr.output, hgr.size, fun k hk h1 _ => hgr.block k hk (fun e => by injection e with e; exact h1 e), HRZ.out, HMR.out⟩
            exact h0.drew.setZ 3 _⟩
          have HFE : Aside0 ((wr.drew.setCell ⟨Z, 3, none⟩ (.int .i64 (s.count - (f.ps.length : Int)))).heap[F]? = some (.cells (frCells (.slice AV f.ps.length cV) f).toArray 101)) := ⟨by
            refine (Below.heap_setCell wr.drew ⟨Z, 3, none⟩ _ F (fun e => cellsNe HF.out HX.out.z (by decide) e)).trans (HFR.out.trans HF.out)⟩
          clear HFR HMR HRZ HRO HR z3 zf f0 g1 hL
          generalize wr.drew.setCell ⟨Z, 3, none⟩ (.int .i64 (s.count - (f.ps.length : Int))) = wd at *
          obtain ⟨wm, hrun, hmap, hgr⟩ := HE1.out.drew.map.drop (P := Tryd.prog) und84 Tryd.underlying41 (wf16 s.cur (by omega)) 0
          have HE2 := Aside0.mk (HE1.out.drew.setM hmap hgr)
          have HFE2 : Aside0 (wm.heap[F]? = some (.cells (frCells (.slice AV f.ps.length cV) f).toArray 101)) := ⟨(hgr.block F (ltB (w := wd.drew) HFE.out) (fun e => by injection e with e; exact mapNe HE1.out.map HFE.out e)).trans HFE.out⟩
          have z0 : wd.cell? ⟨Z, 0, none⟩ = some (.map (some M)) := cellB HE1.out.z 0
          have z1 : wd.cell? ⟨Z, 1, none⟩ = some (.int .u16 s.cur) := cellB HE1.out.z 1
          clear hmap hgr
          go_upto_region 19 with fail
          go_cut [] (fun wx => wx = wm)
          case first =>
            go_region
            all_goals (go_wp2_with fail; go_meet; rfl)
          case rest =>
            rw [hcut]
            clear hcut hrun z0 z1 HE1 HFE
            have z1 : wm.cell? ⟨Z, 1, none⟩ = some (.int .u16 s.cur) := cellB HE2.out.z 1
            have zf := fun j => frozB HE2.out.z j
            have f1 : IntKind.u16.wrap ((s.cur : Int) + 1) = (s.cur : Int) + 1 := by rw [IntKind.wrap_u16]; omega
            have hc1 : ((s.cur + 1 : Nat) : Int) = (s.cur : Int) + 1 := by omega
            have HE3 : Aside0 (PopE w Z M (.slice A L c) (outF f t n sq) ((keys xs).filter fun p => p.1 != (s.cur : Int)) [.map (some M), .int .u16 (s.cur + 1 : Nat), .int .i64 (s.size - sumL f.ps), .int .i64 (s.count - (f.ps.length : Int))] (wm.setCell ⟨Z, 1, none⟩ (.int .u16 ((s.cur : Int) + 1)))) := ⟨by
              rw [hc1]
              exact HE2.out.setZ 1 (.int .u16 ((s.cur : Int) + 1))⟩
            have HFE3 : Aside0 ((wm.setCell ⟨Z, 1, none⟩ (.int .u16 ((s.cur : Int) + 1))).heap[F]? = some (.cells (frCells (.slice AV f.ps.length cV) f).toArray 101)) := ⟨(Below.heap_setCell wm ⟨Z, 1, none⟩ _ F (fun e => cellsNe HFE2.out HE2.out.z (by decide) e)).trans HFE2.out⟩
            clear hc1
            go_upto_region 21 with fail
            clear z1 zf f1 HE2 HFE2
            generalize wm.setCell ⟨Z, 1, none⟩ (.int .u16 ((s.cur : Int) + 1)) = wf at *
            have f9 : wf.cell? ⟨F, 9, none⟩ = some (.int .u16 f.ep) := cellB HFE3.out 9
            go_quiet (fail)
            go_wp2
            go_ret2
            have h := HE3.out
            have hb := pw_below_drewN (Below.refl wf.heap.size wf) nq
            obtain ⟨hbuf, hkeep⟩ := pop_fin HX.out HBASE.out (w' := wf.drewN nq) h.os h.tape h.output h.size h.block h.z (h.map.move rfl)
            refine ⟨_, rfl, own_move h.own (fun _ _ => rfl), ⟨M, _, hbuf, ?_⟩, hkeep⟩
            rw [sts_filter, HMS.out]
            rfl

end Go.Proofs.YtblmbbllfiigmaaDoor
