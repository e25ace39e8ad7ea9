/-
  FnWindowSpan's inner state: three rows that grow by one element each, in one statement whose order Go leaves open; a set of numbers.
-/
import Derived.Test.YtklihfjchomkmaaMaps
import Derived.Test.YtklihfjchomkmaaWin
namespace Go.Proofs.Ytklihfjchomkmaa
open Go.RowKit Go.Proofs.YtklihfjchomkmaaW.PrintWords Go.Proofs.YtklihfjchomkmaaW.PrintLast Go.Proofs.YtklihfjchomkmaaW.PrintMore
open Go.Maps (Keyed int_keyed keyOf_int_mk)

def setOf (l : List Int) : List (Int × Value) := l.map fun x => (x, .bool true)

theorem look_setOf (n : Int) (l : List Int) : look n (setOf l) = if l.contains n then some (.bool true) else none := by
  induction l with
  | nil => rfl
  | cons x l ih =>
    unfold look setOf at ih ⊢
    rw [List.map_cons, List.find?_cons, List.contains_cons]
    by_cases e : x = n
    · subst e; simp
    · have h1 : (x == n) = false := by simpa using e
      have h2 : (n == x) = false := by simpa using fun h : n = x => e h.symm
      simp only [h1, h2, Bool.false_or]
      exact ih

theorem zero4 (w : World) : (zeroValue 4).run Try.prog w = .ok (.bool false) w := by kernel_rfl
theorem und33 : Try.prog.underlying 33 = some (.map 26 4) := by kernel_rfl

theorem seen_lookup {w : World} {B : Nat} {l : List Int} (h : HasMap .u64 w B (setOf l)) {n : Int} (hn : (Lit.int .u64 n).wf = true) :
    (Instr.lookup 33 (.map (some B)) (.int .u64 n) false).run Try.prog w = .ok (.bool (l.contains n)) w := by
  rw [h.lookup und33 Try.underlying26 (zero4 w) hn false, look_setOf]
  cases l.contains n <;> rfl

/-- Where a statement of three appends stands: which boxes wait (57, 60, 67), the three rows, the set. -/
structure SNode (w : World) (B : Nat) (n : Int) (c : Bool) (sl : List Int) (b57 b60 b67 : Option Nat) (v8 v9 v10 : Value) (l8 : List Int) (l9 l10 : List Bool) (W : World) : Prop where
  r8 : (Kd.int .u64).R 26 W w.heap.size (fun _ => True) v8 l8
  r9 : Kd.bool.R 4 W w.heap.size (fun q => True ∧ some q ≠ v10.ownBlock) v9 l9
  r10 : Kd.bool.R 4 W w.heap.size (fun q => True ∧ some q ≠ v9.ownBlock) v10 l10
  mp : HasMap .u64 W B (setOf sl)
  bel : Below w.heap.size w W
  x57 : ∀ g, b57 = some g → W.heap[g]? = some (.cells [Value.int .u64 n].toArray 26)
  x60 : ∀ g, b60 = some g → W.heap[g]? = some (.cells [Value.bool true].toArray 4)
  x67 : ∀ g, b67 = some g → W.heap[g]? = some (.cells [Value.bool c].toArray 4) ∧ some g ≠ v9.ownBlock

section
variable {w W : World} {B : Nat} {n : Int} {c : Bool} {sl : List Int} {b57 b60 b67 : Option Nat} {v8 v9 v10 : Value} {l8 : List Int} {l9 l10 : List Bool}

theorem SNode.below (h : SNode w B n c sl b57 b60 b67 v8 v9 v10 l8 l9 l10 W) {W1 : World} (hb : Below W.heap.size W W1) : SNode w B n c sl b57 b60 b67 v8 v9 v10 l8 l9 l10 W1 :=
  ⟨Kd.R_below h.r8 hb, Kd.R_below h.r9 hb, Kd.R_below h.r10 hb, h.mp.move (hb.block B h.mp.lt), below_then h.bel h.bel.size hb,
    fun g e => (hb.block g (ltB (h.x57 g e))).trans (h.x57 g e), fun g e => (hb.block g (ltB (h.x60 g e))).trans (h.x60 g e), fun g e => ⟨(hb.block g (ltB (h.x67 g e).1)).trans (h.x67 g e).1, (h.x67 g e).2⟩⟩

theorem SNode.alloc57 (h : SNode w B n c sl none b60 b67 v8 v9 v10 l8 l9 l10 W) : SNode w B n c sl (some W.heap.size) b60 b67 v8 v9 v10 l8 l9 l10 (W.alloc (.cells #[.int .u64 n] 26)) := by
  have k := h.below (below_alloc (Below.refl _ W) (.cells #[.int .u64 n] 26))
  exact ⟨k.r8, k.r9, k.r10, k.mp, k.bel, fun g e => by injection e with e; subst e; exact heap_alloc_new W _, k.x60, k.x67⟩
theorem SNode.alloc60 (h : SNode w B n c sl b57 none b67 v8 v9 v10 l8 l9 l10 W) : SNode w B n c sl b57 (some W.heap.size) b67 v8 v9 v10 l8 l9 l10 (W.alloc (.cells #[.bool true] 4)) := by
  have k := h.below (below_alloc (Below.refl _ W) (.cells #[.bool true] 4))
  exact ⟨k.r8, k.r9, k.r10, k.mp, k.bel, k.x57, fun g e => by injection e with e; subst e; exact heap_alloc_new W _, k.x67⟩
theorem SNode.alloc67 (h : SNode w B n c sl b57 b60 none v8 v9 v10 l8 l9 l10 W) : SNode w B n c sl b57 b60 (some W.heap.size) v8 v9 v10 l8 l9 l10 (W.alloc (.cells #[.bool c] 4)) := by
  have k := h.below (below_alloc (Below.refl _ W) (.cells #[.bool c] 4))
  refine ⟨k.r8, k.r9, k.r10, k.mp, k.bel, k.x57, k.x60, fun g e => ?_⟩
  injection e with e
  subst e
  refine ⟨heap_alloc_new W _, fun e2 => ?_⟩
  have := Kd.R_lt h.r9 _ e2.symm
  omega

theorem SNode.look {cs : Bool} (h : SNode w B n c sl b57 b60 b67 v8 v9 v10 l8 l9 l10 W) (hn : (Lit.int .u64 n).wf = true) (hcs : cs = sl.contains n) : (Instr.lookup 33 (.map (some B)) (.int .u64 n) false).run Try.prog W = .ok (.bool cs) W := by
  rw [hcs]; exact seen_lookup h.mp hn

theorem SNode.drew (h : SNode w B n c sl b57 b60 b67 v8 v9 v10 l8 l9 l10 W) : SNode w B n c sl b57 b60 b67 v8 v9 v10 l8 l9 l10 W.drew := h.below (below_drew (Below.refl _ _))

theorem SNode.re (h : SNode w B n c sl none none none v8 v9 v10 l8 l9 l10 W) (n' : Int) (c' : Bool) : SNode w B n' c' sl none none none v8 v9 v10 l8 l9 l10 W :=
  ⟨h.r8, h.r9, h.r10, h.mp, h.bel, (fun g e => by cases e), (fun g e => by cases e), (fun g e => by cases e)⟩

/-- the number is put into the set -/
theorem SNode.put (h : SNode w B n c sl none none none v8 v9 v10 l8 l9 l10 W) (hB : w.heap.size ≤ B) (hn : (Lit.int .u64 n).wf = true) :
    ∃ W1, (Instr.mapUpdate 33 (.map (some B)) (.int .u64 n) (.bool true)).run Try.prog W = .ok () W1 ∧ SNode w B n c (if sl.contains n then sl else sl ++ [n]) none none none v8 v9 v10 l8 l9 l10 W1 := by
  have key : ∃ W1, (Instr.mapUpdate 33 (.map (some B)) (.int .u64 n) (.bool true)).run Try.prog W = .ok () W1 ∧ HasMap .u64 W1 B (setOf (if sl.contains n then sl else sl ++ [n])) ∧ W.grownBy W1 (some B) := by
    by_cases hc : sl.contains n = true
    · rw [if_pos hc]
      exact h.mp.again und33 Try.underlying26 hn (by rw [look_setOf, if_pos hc])
    · rw [if_neg hc]
      obtain ⟨W1, h1, h2, h3⟩ := h.mp.store und33 Try.underlying26 hn (by rw [look_setOf, if_neg hc]) (.bool true)
      refine ⟨W1, h1, ?_, h3⟩
      have e : setOf (sl ++ [n]) = setOf sl ++ [(n, .bool true)] := by simp [setOf]
      rw [e]; exact h2
  obtain ⟨W1, h1, h2, h3⟩ := key
  have ne : ∀ k cells e, W.heap[k]? = some (Obj.cells cells e (0, 0)) → some k ≠ some B := by
    intro k cells e hk he
    injection he with he
    subst he
    obtain ⟨es, cl, hx, _⟩ := h.mp.ex
    rw [hk] at hx
    cases hx
  have st : ∀ {α : Type} {d : Kd α} {e : Nat} {ok : Nat → Prop} {v : Value} {xs : List α}, d.R e W w.heap.size ok v xs → d.R e W1 w.heap.size ok v xs := fun hr =>
    Kd.R_mono (Kd.R_move (Kd.R_bound hr) (fun k hk => by
      obtain ⟨_, _, h4, q, _, cells, hc⟩ := hk
      exact h3.block k h4 (ne k cells q hc))) (fun _ hk => hk.1)
  exact ⟨W1, h1, ⟨st h.r8, st h.r9, st h.r10, h2, h.bel.grown h3 h.bel.size (fun k hk => by injection hk with hk; omega), (fun g e => by cases e), (fun g e => by cases e), (fun g e => by cases e)⟩⟩

theorem HasMap.far {W1 : World} {l : List (Int × Value)} (h : HasMap .u64 W B l) {row : Option Nat} (hg : W.grownBy W1 row) (hty : ∀ k, row = some k → ∃ cells e, W.heap[k]? = some (.cells cells e (0, 0))) : HasMap .u64 W1 B l := by
  refine h.move (hg.block B h.lt (fun e => ?_))
  obtain ⟨cells, e2, h2⟩ := hty B e.symm
  obtain ⟨es, cl, h1, _⟩ := h.ex
  rw [h2] at h1
  cases h1

variable {P : Program} {ops : Array Oper} {o : Oper} {a : Act} {Q : Exit → Act → World → Prop} {Kc : Act → World → Prop}

theorem news_int {W : World} {g : Nat} (h : W.heap[g]? = some (.cells [Value.int .u64 n].toArray 26)) : ReadsRow (fun (x : Int) cs => cs = [Value.int .u64 x]) 1 W (some ⟨g, 0, none⟩) 1 [n] := by
  refine ⟨rfl, by omega, fun _ => ⟨_, rfl, fun j p hp => ?_⟩⟩
  have hj : j = 0 := by
    have := (List.getElem?_eq_some_iff.1 hp).1
    simp at this; exact this
  subst hj
  simp at hp
  subst hp
  refine ⟨[.int .u64 n], rfl, rfl, fun i u hi => ?_⟩
  have hi0 : i = 0 := by
    have := (List.getElem?_eq_some_iff.1 hi).1
    simp at this; exact this
  subst hi0
  rw [add_plain, cellB h]
  exact hi
theorem news_bool {W : World} {g : Nat} {x : Bool} (h : W.heap[g]? = some (.cells [Value.bool x].toArray 4)) : ReadsRow (fun (x : Bool) cs => cs = [Value.bool x]) 1 W (some ⟨g, 0, none⟩) 1 [x] := by
  refine ⟨rfl, by omega, fun _ => ⟨_, rfl, fun j p hp => ?_⟩⟩
  have hj : j = 0 := by
    have := (List.getElem?_eq_some_iff.1 hp).1
    simp at this; exact this
  subst hj
  simp at hp
  subst hp
  refine ⟨[.bool x], rfl, rfl, fun i u hi => ?_⟩
  have hi0 : i = 0 := by
    have := (List.getElem?_eq_some_iff.1 hi).1
    simp at this; exact this
  subst hi0
  rw [add_plain, cellB h]
  exact hi

/-- the first append -/
theorem SNode.step58 {g : Nat} (h : SNode w B n c sl (some g) b60 b67 v8 v9 v10 l8 l9 l10 W) (hw : Region.wanted o (yielded ops a.tmps) = true) (s x : Operand) (ho : o.op = .call { callee := .builtin .append, args := #[s, x], argTypes := #[27, 27] })
    (hc : l8.length ≤ 1000) (hs : a.eval s = v8) (hx : a.eval x = .slice (some ⟨g, 0, none⟩) 1 1)
    (hK : ∀ v w1, SNode w B n c sl none b60 b67 v v9 v10 (l8 ++ [n]) l9 l10 w1 → Kc (a.put o.dst v) w1) :
    if Region.wanted o (yielded ops a.tmps) = true then Oper.wp Try.prog o a W Kc Q else Kc (a.put o.dst undef) W := by
  refine Kd.R_append_rows_step (Kd.int .u64) (Rr := fun (x : Int) cs => cs = [Value.int .u64 x]) (w0 := w) w.heap.size hw s x 27 26 (.int .u64 0) 8 ho Try.underlying27 info26 rfl (by decide) (by omega) v8 l8 [n] (some ⟨g, 0, none⟩) 1 1 (fun _ => True) (fun _ => False) hs hx h.r8 (news_int (h.x57 g rfl)) (fun _ _ e => e) (fun _ e => e.elim) (fun _ _ => trivial) h.bel h.bel.size (by omega) ?_
  intro v1 w1 ho1 hb1 hg1 _
  have ty := Kd.R_typed h.r8
  have far : ∀ (q : Nat) (cells : Array Value) (_ : W.heap[q]? = some (.cells cells 4 (0, 0))), w1.heap[q]? = W.heap[q]? := fun q cells hq => hg1.block q (ltB hq) (fun e => by
    obtain ⟨x1, t1⟩ := ty q e.symm
    rw [hq] at t1
    injection t1 with t1
    injection t1 with _ t1
    exact absurd t1 (by decide))
  refine hK v1 w1 ⟨ho1, Kd.R_over' h.r9 ty (by intro q hq; simp [Kd.bool, Kd.scalar] at hq; omega) hg1, Kd.R_over' h.r10 ty (by intro q hq; simp [Kd.bool, Kd.scalar] at hq; omega) hg1, h.mp.far hg1 (fun k hk => by obtain ⟨x1, t1⟩ := ty k hk; exact ⟨x1, _, t1⟩), hb1, (fun g e => by cases e), fun g e => (far g _ (h.x60 g e)).trans (h.x60 g e), fun g e => ⟨(far g _ (h.x67 g e).1).trans (h.x67 g e).1, (h.x67 g e).2⟩⟩

/-- the second append -/
theorem SNode.step61 {g : Nat} (h : SNode w B n c sl b57 (some g) b67 v8 v9 v10 l8 l9 l10 W) (hw : Region.wanted o (yielded ops a.tmps) = true) (s x : Operand) (ho : o.op = .call { callee := .builtin .append, args := #[s, x], argTypes := #[28, 28] })
    (hc : l9.length ≤ 1000) (hs : a.eval s = v9) (hx : a.eval x = .slice (some ⟨g, 0, none⟩) 1 1)
    (hK : ∀ v w1, SNode w B n c sl b57 none b67 v8 v v10 l8 (l9 ++ [true]) l10 w1 → Kc (a.put o.dst v) w1) :
    if Region.wanted o (yielded ops a.tmps) = true then Oper.wp Try.prog o a W Kc Q else Kc (a.put o.dst undef) W := by
  refine Kd.R_append_rows_step Kd.bool (Rr := fun (x : Bool) cs => cs = [Value.bool x]) (w0 := w) w.heap.size hw s x 28 4 (.bool false) 1 ho Try.underlying28 info4 rfl (by decide) (by omega) v9 l9 [true] (some ⟨g, 0, none⟩) 1 1 (fun q => True ∧ some q ≠ v10.ownBlock) (fun _ => False) hs hx h.r9 (news_bool (h.x60 g rfl)) (fun _ _ e => e) (fun _ e => e.elim) (fun k hk => ⟨trivial, fun e => by have := Kd.R_lt h.r10 k e.symm; omega⟩) h.bel h.bel.size (by omega) ?_
  intro v1 w1 ho1 hb1 hg1 hat
  have ty := Kd.R_typed h.r9
  have lt := Kd.R_lt h.r9
  refine hK v1 w1 ⟨Kd.R_over' h.r8 ty (by intro q hq; simp [Kd.int, Kd.scalar] at hq; omega) hg1, ho1, Kd.R_after h.r10 hg1 hat, h.mp.far hg1 (fun k hk => by obtain ⟨x1, t1⟩ := ty k hk; exact ⟨x1, _, t1⟩), hb1, fun g e => ?_, (fun g e => by cases e), fun g e => ⟨?_, ?_⟩⟩
  · rw [hg1.block g (ltB (h.x57 g e)) (fun e2 => by
      obtain ⟨x1, t1⟩ := ty g e2.symm
      rw [h.x57 g e] at t1
      injection t1 with t1
      injection t1 with _ t1
      exact absurd t1 (by decide))]
    exact h.x57 g e
  · rw [hg1.block g (ltB (h.x67 g e).1) (h.x67 g e).2]
    exact (h.x67 g e).1
  · rcases hat with e2 | ⟨b, e2, hb⟩
    · rw [e2]; exact (h.x67 g e).2
    · rw [e2]
      intro e3
      injection e3 with e3
      have := ltB (h.x67 g e).1
      omega

/-- the third append -/
theorem SNode.step68 {g : Nat} (h : SNode w B n c sl b57 b60 (some g) v8 v9 v10 l8 l9 l10 W) (h60 : b60 = none) (hw : Region.wanted o (yielded ops a.tmps) = true) (s x : Operand) (ho : o.op = .call { callee := .builtin .append, args := #[s, x], argTypes := #[28, 28] })
    (hc : l10.length ≤ 1000) (hs : a.eval s = v10) (hx : a.eval x = .slice (some ⟨g, 0, none⟩) 1 1)
    (hK : ∀ v w1, SNode w B n c sl b57 none none v8 v9 v l8 l9 (l10 ++ [c]) w1 → Kc (a.put o.dst v) w1) :
    if Region.wanted o (yielded ops a.tmps) = true then Oper.wp Try.prog o a W Kc Q else Kc (a.put o.dst undef) W := by
  subst h60
  refine Kd.R_append_rows_step Kd.bool (Rr := fun (x : Bool) cs => cs = [Value.bool x]) (w0 := w) w.heap.size hw s x 28 4 (.bool false) 1 ho Try.underlying28 info4 rfl (by decide) (by omega) v10 l10 [c] (some ⟨g, 0, none⟩) 1 1 (fun q => True ∧ some q ≠ v9.ownBlock) (fun _ => False) hs hx h.r10 (news_bool (h.x67 g rfl).1) (fun _ _ e => e) (fun _ e => e.elim) (fun k hk => ⟨trivial, fun e => by have := Kd.R_lt h.r9 k e.symm; omega⟩) h.bel h.bel.size (by omega) ?_
  intro v1 w1 ho1 hb1 hg1 hat
  have ty := Kd.R_typed h.r10
  refine hK v1 w1 ⟨Kd.R_over' h.r8 ty (by intro q hq; simp [Kd.int, Kd.scalar] at hq; omega) hg1, Kd.R_after h.r9 hg1 hat, ho1, h.mp.far hg1 (fun k hk => by obtain ⟨x1, t1⟩ := ty k hk; exact ⟨x1, _, t1⟩), hb1, fun g e => ?_, (fun g e => by cases e), (fun g e => by cases e)⟩
  rw [hg1.block g (ltB (h.x57 g e)) (fun e2 => by
      obtain ⟨x1, t1⟩ := ty g e2.symm
      rw [h.x57 g e] at t1
      injection t1 with t1
      injection t1 with _ t1
      exact absurd t1 (by decide))]
  exact h.x57 g e

end
end Go.Proofs.Ytklihfjchomkmaa
