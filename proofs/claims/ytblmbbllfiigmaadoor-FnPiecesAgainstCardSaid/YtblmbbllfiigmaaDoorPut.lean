/-
  add of any fragment that a buffer's message takes, in one contract; the buffer's size; what the look-up of a message tells.
-/
import Derived.Test.YtblmbbllfiigmaaDoorSt
import Derived.Test.YtblmbbllfiigmaaDoorAddW
import Derived.Test.YtblmbbllfiigmaaDoorAdd
namespace Go.Proofs.YtblmbbllfiigmaaDoor
open Go.RowKit Go.Proofs.YtblmbbllfiigmaaDoorW.PrintWords Go.Proofs.YtblmbbllfiigmaaDoorW.PrintLast Go.Proofs.YtblmbbllfiigmaaDoorW.PrintMore

/-- What add leaves. -/
structure PutPost (w : World) (F : Nat) (v : Value) (base : Nat) (f : Fr) (g : Frag) (w' : World) : Prop where
  ex : ∃ v', w'.heap[F]? = some (.cells (frCells v' { f with ps := psOf f g, cov := covOf f g }).toArray 101) ∧ RowAt w' base v' (psOf f g) ∧ (v'.ownBlock = v.ownBlock ∨ ∃ b, v'.ownBlock = some b ∧ w.heap.size ≤ b)
  os : w'.os = w.os
  tape : w'.tape = w.tape
  output : w'.output = w.output
  size : w.heap.size ≤ w'.heap.size
  block : ∀ k, k < w.heap.size → k ≠ F → some k ≠ v.ownBlock → w'.heap[k]? = w.heap[k]?

theorem add_any (F : Nat) (f : Fr) (g : Frag) (v : Value) (A : Option Addr) (c : Nat) (avail : Int) (base : Nat) (w : World) (hok : OkF f g) (hfit : FitsF g) (hF : w.heap[F]? = some (.cells (frCells v f).toArray 101)) (hr : RowAt w base v f.ps)
    (hav : 1 ≤ avail) (hav2 : avail ≤ 1000000) (hbase : base ≤ w.heap.size) (hdat : DatAt w (.slice A g.dat.length c) g.dat) :
    Calls Tryd.prog 41 #[.pointer (some ⟨F, 0, none⟩), .int .u32 g.off, .slice A g.dat.length c, .int .i64 avail] w fun e w' => e = .returned (.tuple #[.int .i64 (newC f g), .int .i64 (newB f g), .nilIface]) ∧ PutPost w F v base f g w' := by
  have h1 : (g.off : Int) + (g.dat.length : Int) < 4294967296 := by have := hfit.fit; have := hfit.len; omega
  by_cases ht : there f g = true
  · refine (add_old F g.off A c g.dat avail (.int .u32 f.cov) (frRest f) v base f.ps w hr (Nat.le_of_lt hok.n) hok.small hok.sorted hF (by omega) h1 ht).mono ?_
    rintro e w' ⟨rfl, hb⟩
    have e1 : newC f g = 0 := by unfold newC; rw [if_pos ht]
    have e2 : newB f g = 0 := by unfold newB; rw [if_pos ht]
    have e3 : psOf f g = f.ps := by unfold psOf; rw [if_pos ht]
    have e4 : covOf f g = f.cov := by unfold covOf; rw [if_pos ht]
    rw [e1, e2]
    refine ⟨rfl, ⟨v, ?_, ?_, Or.inl rfl⟩, hb.os, hb.tape, hb.output, hb.size, fun k hk _ _ => hb.block k hk⟩
    · rw [e3, e4]; exact (hb.block F (ltB hF)).trans hF
    · rw [e3]; exact hr.below hb
  · have hf : there f g = false := by simpa using ht
    refine (add_new F g.off A c g.dat avail f.cov (frRest f) v base f.ps w hr (Nat.le_of_lt hok.n) hok.n hok.small hok.sorted hF hok.c0 hok.c1 (by omega) h1 hf (hok.keep hf) hav hav2 hbase hdat).mono ?_
    rintro e w' ⟨rfl, hp⟩
    have e1 : newC f g = 1 := by unfold newC; rw [if_neg ht]
    have e2 : newB f g = g.dat.length := by unfold newB; rw [if_neg ht]
    have e3 : psOf f g = insP f.ps (idxOf f.ps g.off) (g.off, g.dat) := by unfold psOf; rw [if_neg ht]
    have e4 : covOf f g = advC f.cov ((insP f.ps (idxOf f.ps g.off) (g.off, g.dat)).drop (idxOf f.ps g.off)) := by unfold covOf; rw [if_neg ht]
    rw [e1, e2]
    refine ⟨rfl, ?_, hp.os, hp.tape, hp.output, hp.size, hp.block⟩
    rw [e3, e4]
    exact hp.ex

set_option maxRecDepth 100000 in
set_option maxHeartbeats 1000000 in
theorem size_any (Z : Nat) (n : Int) (w : World) (hz : w.cell? ⟨Z, 2, none⟩ = some (.int .i64 n)) :
    Calls Tryd.prog 33 #[.pointer (some ⟨Z, 0, none⟩)] w fun e w' => e = .returned (.int .i64 n) ∧ Below w.heap.size w w' := by
  go_enter Tryd.func33, Tryd.ntmps33
  go_wp2
  go_ret
  exact ⟨rfl, Below.refl _ w⟩

theorem und84 : Tryd.prog.underlying 84 = some (.map 41 97) := by kernel_rfl
theorem zero97 (w : World) : (zeroValue 97).run Tryd.prog w = .ok (.pointer none) w := by kernel_rfl

theorem lookF_none {n : Nat} {xs : List Sl} (h : lookF n (sts xs) = none) : look (n : Int) (keys xs) = none := by
  rw [lookF_map] at h
  rw [look_keys]
  simp at h ⊢
  exact h
theorem lookF_some {n : Nat} {xs : List Sl} {f : Fr} (h : lookF n (sts xs) = some f) : ∃ a x b, xs = a ++ x :: b ∧ x.num = n ∧ x.fr = f ∧ (∀ y ∈ a, y.num ≠ n) ∧ look (n : Int) (keys xs) = some (.pointer (some ⟨x.F, 0, none⟩)) := by
  rw [lookF_map] at h
  rw [look_keys]
  cases hx : xs.find? fun x => x.num == n with
  | none => rw [hx] at h; cases h
  | some x =>
    rw [hx] at h
    obtain ⟨h1, a, b, h2, h3⟩ := List.find?_eq_some_iff_append.1 hx
    refine ⟨a, x, b, h2, by simpa using h1, by simpa using h, fun y hy => ?_, rfl⟩
    have := h3 y hy
    simpa using this

theorem setF_at {n : Nat} {f : Fr} {a b : List Sl} {x : Sl} (hx : x.num = n) (ha : ∀ y ∈ a, y.num ≠ n) (hb : ∀ y ∈ b, y.num ≠ n) (v : Value) : sts (a ++ ⟨x.num, x.F, v, f⟩ :: b) = setF n f (sts (a ++ x :: b)) := by
  unfold sts setF
  simp only [List.map_append, List.map_cons, List.map_map, hx, if_true]
  congr 1
  · apply List.map_congr_left
    intro y hy
    simp [ha y hy]
  · congr 1
    apply List.map_congr_left
    intro y hy
    simp [hb y hy]

theorem wf16 (n : Nat) (hn : n < 65536) : (Lit.int .u16 (n : Int)).wf = true := by
  have h1 : IntKind.min .u16 = 0 := by decide
  have h2 : IntKind.max .u16 = 65535 := by decide
  simp [Lit.wf, h1, h2]
  omega

theorem BufX.look {w : World} {base Z M : Nat} {xs : List Sl} {cur : Nat} {size count : Int} (h : BufX w base Z M xs cur size count) (n : Nat) (hn : n < 65536) :
    (Instr.lookup 84 (.map (some M)) (.int .u16 n) true).run Tryd.prog w = .ok (.tuple #[(YtblmbbllfiigmaaDoor.look (n : Int) (keys xs)).getD (.pointer none), .bool (YtblmbbllfiigmaaDoor.look (n : Int) (keys xs)).isSome]) w := by
  have hw := wf16 n hn
  rw [h.m.lookup und84 Tryd.underlying41 (zero97 w) hw true]
  rfl
theorem BufX.nums {w : World} {base Z M : Nat} {xs : List Sl} {cur : Nat} {size count : Int} (h : BufX w base Z M xs cur size count) : (xs.map (·.num)).Nodup := by
  have := h.m.nd
  unfold keys at this
  rw [List.map_map] at this
  have e : ((fun x : Int × Value => x.1) ∘ fun x : Sl => ((x.num : Int), Value.pointer (some ⟨x.F, 0, none⟩))) = (fun n : Nat => (n : Int)) ∘ fun x : Sl => x.num := rfl
  rw [e, ← List.map_map] at this
  exact (List.pairwise_map.1 this).imp fun hne e => hne (by rw [e])

end Go.Proofs.YtblmbbllfiigmaaDoor
