/-
  A map with whole numbers as keys that the call itself makes: what a look-up, a store and a delete do, in terms of the list of what it holds.
-/
import Derived.Maps.Own
import Derived.Maps.OwnOps
import Derived.Maps.OwnSet
import Derived.OwnWalk
import Derived.WalkKit
namespace Go.Proofs.YtblmbbllfiigmaaDoor
open Go.Maps (Keyed int_keyed keyOf_int_mk)

/-- Block B is a map that holds these keys and values. -/
structure HasMap (kd : IntKind) (w : World) (B : Nat) (l : List (Int × Value)) : Prop where
  ex : ∃ es cl, w.heap[B]? = some (.map es cl) ∧ es.toList.map (fun e : MapEntry => (e.key, e.val)) = l.map (fun p => (Value.int kd p.1, p.2))
  nd : (l.map (·.1)).Nodup
  wf : ∀ p ∈ l, (Lit.int kd p.1).wf = true

def look (n : Int) (l : List (Int × Value)) : Option Value := (l.find? fun p => p.1 == n).map (·.2)

theorem HasMap.move {kd : IntKind} {w w1 : World} {B : Nat} {l : List (Int × Value)} (h : HasMap kd w B l) (hm : w1.heap[B]? = w.heap[B]?) : HasMap kd w1 B l := by
  obtain ⟨es, cl, h1, h2⟩ := h.ex
  exact ⟨⟨es, cl, hm.trans h1, h2⟩, h.nd, h.wf⟩
theorem HasMap.lt {kd : IntKind} {w : World} {B : Nat} {l : List (Int × Value)} (h : HasMap kd w B l) : B < w.heap.size := by
  obtain ⟨es, cl, h1, h2⟩ := h.ex
  exact (Array.getElem?_eq_some_iff.1 h1).1
theorem HasMap.new (kd : IntKind) (w : World) : HasMap kd (w.alloc (.map #[] 0)) w.heap.size [] :=
  ⟨⟨#[], 0, heap_alloc_new w _, rfl⟩, by simp, by intro p hp; cases hp⟩

theorem look_of_mem {l : List (Int × Value)} (hnd : (l.map (·.1)).Nodup) {n : Int} {v : Value} (h : (n, v) ∈ l) : look n l = some v := by
  induction l with
  | nil => cases h
  | cons p l ih =>
    unfold look
    rw [List.find?_cons]
    rw [List.map_cons, List.nodup_cons] at hnd
    rcases List.mem_cons.1 h with e | h
    · rw [← e]; simp
    · have hne : ¬ p.1 = n := by
        intro e
        apply hnd.1
        rw [e]
        exact List.mem_map.2 ⟨(n, v), h, rfl⟩
      have : (p.1 == n) = false := by simpa using hne
      rw [this]
      exact ih hnd.2 h

theorem look_none {l : List (Int × Value)} {n : Int} (h : ∀ p ∈ l, p.1 ≠ n) : look n l = none := by
  unfold look
  rw [List.find?_eq_none.2]
  · rfl
  · intro p hp
    simpa using h p hp

section
variable {P : Program} {k e t : TypeId} {kd : IntKind} {w : World} {B : Nat} {l : List (Int × Value)}

theorem HasMap.keys (h : HasMap kd w B l) {es : Array MapEntry} (h2 : es.toList.map (fun e : MapEntry => (e.key, e.val)) = l.map (fun p => (Value.int kd p.1, p.2))) :
    ∀ x ∈ es.toList, ∃ a, (Lit.int kd a).wf = true ∧ x.key = .int kd a ∧ (a, x.val) ∈ l := by
  intro x hx
  have h3 : (x.key, x.val) ∈ l.map (fun p => (Value.int kd p.1, p.2)) := by rw [← h2]; exact List.mem_map.2 ⟨x, hx, rfl⟩
  obtain ⟨p, hp, he⟩ := List.mem_map.1 h3
  injection he with e1 e2
  exact ⟨p.1, h.wf p hp, e1.symm, by rw [← e2]; exact hp⟩

/-- what the search for a key comes to -/
theorem HasMap.find (h : HasMap kd w B l) (hk : P.underlying k = some (.int kd)) {n : Int} (hn : (Lit.int kd n).wf = true) {es : Array MapEntry} {cl : Nat} (_h1 : w.heap[B]? = some (.map es cl)) (h2 : es.toList.map (fun e : MapEntry => (e.key, e.val)) = l.map (fun p => (Value.int kd p.1, p.2))) :
    ((Instr.findKey k (.int kd n) es.toList).run P w = .ok none w ∧ ∀ p ∈ l, p.1 ≠ n) ∨
    ∃ j v, (Instr.findKey k (.int kd n) es.toList).run P w = .ok (some (j, v)) w ∧ (n, v) ∈ l ∧ ∃ x, es.toList[j]? = some x ∧ x.key = .int kd n ∧ x.val = v := by
  have K := int_keyed (P := P) hk
  have hks := h.keys h2
  rcases K.find w (keyOf_int_mk hk hn) es.toList (fun x hx => by
    obtain ⟨a, ha, e, _⟩ := hks x hx
    exact ⟨_, by rw [e]; exact keyOf_int_mk hk ha⟩) with ⟨hr, hno⟩ | ⟨j, x, hr, hx, hkey⟩
  · refine .inl ⟨hr, fun p hp e => ?_⟩
    have h3 : (Value.int kd p.1, p.2) ∈ es.toList.map (fun e : MapEntry => (e.key, e.val)) := by rw [h2]; exact List.mem_map.2 ⟨p, hp, rfl⟩
    obtain ⟨x, hx, hxe⟩ := List.mem_map.1 h3
    injection hxe with e1 e2
    exact hno x hx (by rw [e1, e])
  · obtain ⟨a, ha, e1, hm⟩ := hks x (List.mem_of_getElem? hx)
    rw [e1] at hkey
    injection hkey with _ hkey
    subst hkey
    exact .inr ⟨j, x.val, hr, hm, x, hx, e1, rfl⟩

/-- m[n] -/
theorem HasMap.lookup (h : HasMap kd w B l) (ht : P.underlying t = some (.map k e)) (hk : P.underlying k = some (.int kd)) {z : Value} (hz : (zeroValue e).run P w = .ok z w) {n : Int} (hn : (Lit.int kd n).wf = true) (ok : Bool) :
    (Instr.lookup t (.map (some B)) (.int kd n) ok).run P w = .ok (if ok then .tuple #[(look n l).getD z, .bool (look n l).isSome] else (look n l).getD z) w := by
  have K := int_keyed (P := P) hk
  obtain ⟨es, cl, h1, h2⟩ := h.ex
  have hc := K.check w es.isEmpty (keyOf_int_mk hk hn)
  have hg := MapKept.run_getObj_map (P := P) h1
  rcases h.find (P := P) (k := k) hk hn h1 h2 with ⟨hf, hno⟩ | ⟨j, v, hf, hm, _⟩
  · rw [look_none hno]
    cases ok <;> simp [Instr.lookup, run_underlying ht, hg, hc, hf, hz, Result.andThen]
  · rw [look_of_mem h.nd hm]
    cases ok <;> simp [Instr.lookup, run_underlying ht, hg, hc, hf, Result.andThen]

/-- m[n] = v where there is no n yet -/
theorem HasMap.store (h : HasMap kd w B l) (ht : P.underlying t = some (.map k e)) (hk : P.underlying k = some (.int kd)) {n : Int} (hn : (Lit.int kd n).wf = true) (hno : look n l = none) (v : Value) :
    ∃ w', (Instr.mapUpdate t (.map (some B)) (.int kd n) v).run P w = .ok () w' ∧ HasMap kd w' B (l ++ [(n, v)]) ∧ w.grownBy w' (some B) := by
  have K := int_keyed (P := P) hk
  obtain ⟨es, cl, h1, h2⟩ := h.ex
  have hc := K.check w false (keyOf_int_mk hk hn)
  have hg := MapKept.run_getObj_map (P := P) h1
  have hs := MapKept.run_setObj_map (P := P) (.map (es.push { key := .int kd n, val := v, born := cl }) (cl + 1)) h1
  have hlt := (Array.getElem?_eq_some_iff.1 h1).1
  rcases h.find (P := P) (k := k) hk hn h1 h2 with ⟨hf, hne⟩ | ⟨j, v', hf, hm, _⟩
  · refine ⟨{ w with heap := w.heap.setIfInBounds B (.map (es.push { key := .int kd n, val := v, born := cl }) (cl + 1)) }, by simp [Instr.mapUpdate, run_underlying ht, hg, hc, hf, hs, Result.andThen], ⟨⟨es.push { key := .int kd n, val := v, born := cl }, cl + 1, by simp [hlt], ?_⟩, ?_, ?_⟩, ⟨rfl, rfl, rfl, by simp, fun i _ hi => ?_⟩⟩
    · simp [h2]
    · rw [List.map_append, List.nodup_append]
      refine ⟨h.nd, by simp, ?_⟩
      intro a ha b hb
      obtain ⟨p, hp, rfl⟩ := List.mem_map.1 ha
      simp at hb
      rw [hb]
      exact hne p hp
    · intro p hp
      rcases List.mem_append.1 hp with hp | hp
      · exact h.wf p hp
      · simp at hp; rw [hp]; exact hn
    · have hi' : ¬ B = i := fun e => hi (by rw [e])
      simp [hi']
  · rw [look_of_mem h.nd hm] at hno; cases hno

theorem map_erase {α β : Type} (f : α → β) : ∀ (l : List α) (j : Nat), (l.eraseIdx j).map f = (l.map f).eraseIdx j
  | [], _ => by simp
  | a :: l, 0 => by simp
  | a :: l, j + 1 => by simp [map_erase f l j]

theorem erase_filter {l : List (Int × Value)} (hnd : (l.map (·.1)).Nodup) {n : Int} {v : Value} : ∀ {j : Nat}, l[j]? = some (n, v) → l.eraseIdx j = l.filter fun p => p.1 != n := by
  induction l with
  | nil => intro j h; simp at h
  | cons p l ih =>
    intro j h
    rw [List.map_cons, List.nodup_cons] at hnd
    cases j with
    | zero =>
      simp at h
      subst h
      rw [List.eraseIdx_cons_zero, List.filter_cons]
      simp
      refine (List.filter_eq_self.2 fun q hq => ?_).symm
      simp only [bne_iff_ne, ne_eq]
      intro e
      exact hnd.1 (by rw [← e]; exact List.mem_map.2 ⟨q, hq, rfl⟩)
    | succ j =>
      rw [List.getElem?_cons_succ] at h
      rw [List.eraseIdx_cons_succ, ih hnd.2 h, List.filter_cons]
      have : (p.1 != n) = true := by
        simp only [bne_iff_ne, ne_eq]
        intro e
        apply hnd.1
        rw [e]
        exact List.mem_map.2 ⟨(n, v), List.mem_of_getElem? h, rfl⟩
      rw [if_pos this]

/-- delete(m, n) -/
theorem HasMap.drop (h : HasMap kd w B l) (ht : P.underlying t = some (.map k e)) (hk : P.underlying k = some (.int kd)) {n : Int} (hn : (Lit.int kd n).wf = true) (ty : TypeId) :
    ∃ w', (Builtin.delete_ #[t, k] ty #[.map (some B), .int kd n]).run P w = .ok (.tuple #[]) w' ∧ HasMap kd w' B (l.filter fun p => p.1 != n) ∧ w.grownBy w' (some B) := by
  have K := int_keyed (P := P) hk
  obtain ⟨es, cl, h1, h2⟩ := h.ex
  have hc := K.check w es.isEmpty (keyOf_int_mk hk hn)
  have hg := MapKept.run_getObj_map (P := P) h1
  have hlt := (Array.getElem?_eq_some_iff.1 h1).1
  have hgr : ∀ o, w.grownBy { w with heap := w.heap.setIfInBounds B o } (some B) := fun o => ⟨rfl, rfl, rfl, by simp, fun i _ hi => by
    have hi' : ¬ B = i := fun e => hi (by rw [e])
    simp [hi']⟩
  rcases h.find (P := P) (k := k) hk hn h1 h2 with ⟨hf, hne⟩ | ⟨j, v', hf, hm, x, hx, hxk, hxv⟩
  · have hs := MapKept.run_setObj_map (P := P) (.map es cl) h1
    refine ⟨{ w with heap := w.heap.setIfInBounds B (.map es cl) }, by simp [Builtin.delete_, run_underlying ht, hg, hc, hf, hs, Result.andThen], ?_, hgr _⟩
    have e : (l.filter fun p => p.1 != n) = l := List.filter_eq_self.2 fun q hq => by simpa using hne q hq
    rw [e]
    exact ⟨⟨es, cl, by simp [hlt], h2⟩, h.nd, h.wf⟩
  · have hs := MapKept.run_setObj_map (P := P) (.map (es.eraseIdxIfInBounds j) cl) h1
    refine ⟨{ w with heap := w.heap.setIfInBounds B (.map (es.eraseIdxIfInBounds j) cl) }, by simp [Builtin.delete_, run_underlying ht, hg, hc, hf, hs, Result.andThen], ?_, hgr _⟩
    have hj : j < es.toList.length := (List.getElem?_eq_some_iff.1 hx).1
    have hlj : l[j]? = some (n, v') := by
      have h3 : (es.toList.map (fun e : MapEntry => (e.key, e.val)))[j]? = (l.map (fun p => (Value.int kd p.1, p.2)))[j]? := by rw [h2]
      rw [List.getElem?_map, List.getElem?_map, hx] at h3
      cases hl : l[j]? with
      | none => rw [hl] at h3; cases h3
      | some p =>
        rw [hl] at h3
        simp [hxk, hxv] at h3
        obtain ⟨e1, e2⟩ := h3
        rw [e1, e2]
    rw [← erase_filter h.nd hlj]
    refine ⟨⟨es.eraseIdxIfInBounds j, cl, by simp [hlt], ?_⟩, ?_, ?_⟩
    · have hsz : j < es.size := by simpa using hj
      rw [Array.eraseIdxIfInBounds, dif_pos hsz, Array.toList_eraseIdx, map_erase, map_erase, h2]
    · rw [map_erase]
      exact h.nd.sublist (List.eraseIdx_sublist _ _)
    · exact fun p hp => h.wf p (List.mem_of_mem_eraseIdx hp)

end

end Go.Proofs.YtblmbbllfiigmaaDoor
