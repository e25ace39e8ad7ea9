/-
  add of a fragment that is new and swallows none, walked.
-/
import Derived.Test.YtblmbbllfiigmaaDoorAdd
namespace Go.Proofs.YtblmbbllfiigmaaDoor
open Go.RowKit Go.Proofs.YtblmbbllfiigmaaDoorW.PrintWords Go.Proofs.YtblmbbllfiigmaaDoorW.PrintLast Go.Proofs.YtblmbbllfiigmaaDoorW.PrintMore

/-- A pair put in at a place. -/
def insP (ps : List (Int × List Int)) (i : Nat) (p : Int × List Int) : List (Int × List Int) := ps.take i ++ [p] ++ ps.drop i

theorem pair_one {w : World} {ps : List (Int × List Int)} {cs : List Value} (h : Reps (PairAt w) 2 ps cs) : ∀ u ∈ cs, u.oneCell' = true := by
  intro u hu
  obtain ⟨j, hj, rfl⟩ := List.mem_iff_getElem.1 hu
  have hl : j / 2 < ps.length := by have := h.1; omega
  obtain ⟨v, e, hd⟩ := h.2 (j / 2) _ (List.getElem?_eq_getElem hl)
  obtain ⟨A, c, ev, _, _⟩ := hd
  have hx : ((cs.drop (j / 2 * 2)).take 2)[j % 2]? = some cs[j] := by
    rw [List.getElem?_take, if_pos (by omega), List.getElem?_drop, show j / 2 * 2 + j % 2 = j by omega, List.getElem?_eq_getElem hj]
  rw [e] at hx
  have hm : j % 2 = 0 ∨ j % 2 = 1 := by omega
  rcases hm with h0 | h0
  · rw [h0] at hx
    injection hx with hx
    rw [← hx]; rfl
  · rw [h0] at hx
    injection hx with hx
    rw [← hx, ev]; rfl

theorem put2_get (cs : List Value) (i : Nat) (pa pb : Value) (hi : i * 2 ≤ cs.length) (m : Nat) :
    (put2 cs i pa pb)[m]? = if m < i * 2 then cs[m]? else if m < i * 2 + 2 then [pa, pb][m - i * 2]? else cs[m - 2]? := by
  unfold put2
  have hl : (cs.take (i * 2)).length = i * 2 := by rw [List.length_take]; omega
  rw [List.append_assoc, List.getElem?_append, hl]
  by_cases h1 : m < i * 2
  · rw [if_pos h1, if_pos h1, List.getElem?_take, if_pos h1]
  · rw [if_neg h1, if_neg h1, List.getElem?_append]
    by_cases h2 : m < i * 2 + 2
    · rw [if_pos h2, if_pos (by simp; omega)]
    · rw [if_neg h2, if_neg (by simp; omega), List.getElem?_drop]
      congr 1
      simp
      omega

theorem reps_put {R : Int × List Int → List Value → Prop} {ps : List (Int × List Int)} {cs : List Value} {p : Int × List Int} {pa pb : Value} (h : Reps R 2 ps cs) (hp : R p [pa, pb]) (i : Nat) (hi : i ≤ ps.length) : Reps R 2 (insP ps i p) (put2 cs i pa pb) := by
  have hcl := h.1
  have hg := put2_get cs i pa pb (by omega)
  refine ⟨by simp [insP, put2]; omega, fun j q hj => ?_⟩
  have seg : ∀ (l : List Value) (k : Nat), (∀ m, m < 2 → (put2 cs i pa pb)[j * 2 + m]? = l[k + m]?) → ((put2 cs i pa pb).drop (j * 2)).take 2 = (l.drop k).take 2 := fun l k hm => by
    apply List.ext_getElem?
    intro m
    rw [List.getElem?_take, List.getElem?_take]
    by_cases h2 : m < 2
    · rw [if_pos h2, if_pos h2, List.getElem?_drop, List.getElem?_drop]; exact hm m h2
    · rw [if_neg h2, if_neg h2]
  unfold insP at hj
  have hl : (ps.take i).length = i := by rw [List.length_take]; omega
  rw [List.append_assoc, List.getElem?_append, hl] at hj
  by_cases h1 : j < i
  · rw [if_pos h1, List.getElem?_take, if_pos h1] at hj
    rw [seg cs (j * 2) (fun m hm => by rw [hg, if_pos (by omega)])]
    exact h.2 j q hj
  · rw [if_neg h1, List.getElem?_append] at hj
    by_cases h2 : j = i
    · subst h2
      have hq : q = p := by simpa using hj.symm
      subst hq
      rw [seg [pa, pb] 0 (fun m hm => by rw [hg, if_neg (by omega), if_pos (by omega)]; congr 1; omega)]
      exact hp
    · rw [if_neg (by simp; omega), List.getElem?_drop] at hj
      have hj' : ps[j - 1]? = some q := by rw [← hj]; congr 1; simp; omega
      rw [seg cs ((j - 1) * 2) (fun m hm => by rw [hg, if_neg (by omega), if_neg (by omega)]; congr 1; omega)]
      exact h.2 (j - 1) q hj'

end Go.Proofs.YtblmbbllfiigmaaDoor
