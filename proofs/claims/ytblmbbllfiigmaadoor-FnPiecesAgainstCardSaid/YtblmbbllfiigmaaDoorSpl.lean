/-
  A buffer of fragments and the reference's, side by side, over a script of pushes and pops.
-/
import Derived.Test.YtblmbbllfiigmaaDoorSpk
namespace Go.Proofs.YtblmbbllfiigmaaDoor
open Go.RowKit Go.Proofs.YtblmbbllfiigmaaDoorW.PrintWords Go.Proofs.YtblmbbllfiigmaaDoorW.PrintLast Go.Proofs.YtblmbbllfiigmaaDoorW.PrintMore PAll

structure SRel (P : Msgs) (qs : List (Nat × Nat)) (s : St) (ss : SS) : Prop where
  kn : Kn P s (comes (fun _ _ => false) qs)
  sp : ss = ⟨specL P s.cur qs, (s.cur : Int)⟩
  ok : P.ok qs
  few : qs.length ≤ 1000
/-- Two answers that the law takes for one. -/
def Alk (a b : S43) : Prop := a.f0 = b.f0 ∧ a.f1 = b.f1 ∧ a.f2 = b.f2 ∧ a.f3 = b.f3 ∧ a.f4 = b.f4 ∧ a.f5 = b.f5

theorem spec_small (P : Msgs) (cur : Nat) {qs : List (Nat × Nat)} (hq : P.ok qs) : SmallS (specL P cur qs) := by
  intro x hx
  obtain ⟨p, hp, rfl⟩ := List.mem_map.1 hx
  have h := hq p (fromQ_mem.1 hp).1
  have hs := P.short p.1 h.1
  have hi := (P.cuts p.1 h.1).inn p.2 h.2
  rw [pcP_f3, pcP_size]
  rcases hi with hi | hi
  · omega
  · rw [hi, Nat.zero_mul]; omega
theorem spec_few (P : Msgs) (cur : Nat) (qs : List (Nat × Nat)) : (specL P cur qs).length ≤ qs.length := by
  unfold specL fromQ
  rw [List.length_map]
  exact List.length_filter_le _ _
theorem one_piece (P : Msgs) {p : Nat × Nat} (hp : p.1 < P.N ∧ p.2 < P.m p.1) {i : Nat} (hi : i < 65536) : OneRec (pushC i (P.frs [p])).data (P.fr p.1 p.2) := by
  obtain ⟨h1, h2⟩ := P.frag_ok hp.1 hp.2
  refine ⟨h1, h2, ?_, i, hi, ?_⟩
  · have := P.short p.1 hp.1
    simp only [Msgs.fr, fragOf, chk_len]
    omega
  · simp [pushC, Msgs.frs]

theorem SRel.push {P : Msgs} {qs : List (Nat × Nat)} {s : St} {ss : SS} (h : SRel P qs s ss) {i : Nat} (hi : i < 65536) {p : Nat × Nat} (hp : p.1 < P.N ∧ p.2 < P.m p.1) (hl : qs.length + 1 ≤ 1000) :
    CmdOk s (pushC i (P.frs [p])) ∧ SOk ss (stepOf (pushC i (P.frs [p]))) ∧ Alk (stepTold s (pushC i (P.frs [p]))) (sTold ss (stepOf (pushC i (P.frs [p])))) ∧
      SRel P (qs ++ [p]) (stepSt s (pushC i (P.frs [p]))) (sStep ss (stepOf (pushC i (P.frs [p])))) := by
  have hone : P.ok [p] := fun x hx => by
    obtain rfl : x = p := by simpa using hx
    exact hp
  obtain ⟨h1, h2⟩ := h.kn.push i hone (by simp) (by
    have := frag_len P (i := p.2) hp.1
    simp only [Msgs.frs, List.map_cons, List.map_nil, List.flatMap_cons, List.flatMap_nil, List.append_nil]
    omega)
  have hrec := one_piece P hp hi
  have hof : oneOf (stepOf (pushC i (P.frs [p]))).f1 = P.fr p.1 p.2 := one_rec hrec
  have hcur : (stepSt s (pushC i (P.frs [p]))).cur = s.cur := by
    unfold stepSt
    rw [if_pos (show (pushC i (P.frs [p])).push = true from rfl)]
    exact puts_cur 0 _ s
  have h8 := P.N8
  have hc := h.kn.cur
  have e0 : (stepOf (pushC i (P.frs [p]))).f0 = true := rfl
  refine ⟨h1, ⟨?_, ?_, ?_, fun _ => by rw [hof]; exact hrec, fun e => by cases e⟩, ?_, ?_, ?_, ?_, ?_⟩
  · rw [h.sp]
    have := spec_few P s.cur qs
    have := h.few
    simp only
    omega
  · rw [h.sp]; exact spec_small P s.cur h.ok
  · rw [h.sp]; simp only; omega
  · unfold stepTold sTold
    rw [if_pos (show (pushC i (P.frs [p])).push = true from rfl), if_pos e0, hof, h.sp]
    refine ⟨rfl, ?_, rfl, rfl, rfl, rfl⟩
    show againOf s.cur [P.fr p.1 p.2] = againS (s.cur : Int) (P.fr p.1 p.2)
    have e1 : againOf s.cur [P.fr p.1 p.2] = (decide ((P.fr p.1 p.2).off = 0) && decide ((P.fr p.1 p.2).seq < s.cur)) := againOf_snoc s.cur [] _
    rw [e1, againS, Bool.and_comm]
    congr 1
    rw [decide_eq_decide]
    omega
  · have e : comes (fun _ _ => false) (qs ++ [p]) = comes (comes (fun _ _ => false) qs) [p] := by simp [comes]
    rw [e]
    exact h2
  · unfold sStep
    rw [if_pos e0, hof, h.sp, hcur]
    simp only
    rw [push_spec]
  · intro x hx
    rcases List.mem_append.1 hx with hx | hx
    · exact h.ok x hx
    · exact hone x hx
  · simp; omega

theorem SRel.pop {P : Msgs} {qs : List (Nat × Nat)} {s : St} {ss : SS} (h : SRel P qs s ss) :
    CmdOk s popC ∧ SOk ss (stepOf popC) ∧ Alk (stepTold s popC) (sTold ss (stepOf popC)) ∧ SRel P qs (stepSt s popC) (sStep ss (stepOf popC)) := by
  have h8 := P.N8
  have hcn := h.kn.cur
  have hsf := spec_few P s.cur qs
  have hqf := h.few
  have e0 : (stepOf popC).f0 = false := rfl
  have hcame : ∀ k i, comes (fun _ _ => false) qs k i = true ↔ (k, i) ∈ qs := fun k i => by rw [comes, came]; simp
  have base : ∀ (hp : ∀ p, wholeS ss = some p → ∃ n : Nat, p.f1 = (n : Int) ∧ n ≤ 100000 ∧ FitS ss.nx ss.l n ∧ spec_Head.f p.f0 p.f1 p.f2 0 p.f1 = some (headS p) ∧ (headS p).size ≤ 1000), SOk ss (stepOf popC) := fun hp => by
    refine ⟨?_, ?_, ?_, (fun e => by cases e), fun _ => hp⟩
    · rw [h.sp]; simp only; omega
    · rw [h.sp]; exact spec_small P s.cur h.ok
    · rw [h.sp]; simp only; omega
  by_cases hall : s.cur < P.N ∧ ∀ i, i < P.m s.cur → (s.cur, i) ∈ qs
  · obtain ⟨hc, ha⟩ := hall
    obtain ⟨h1, h2, h3, h4⟩ := h.kn.popped hc (fun i hi => (hcame _ _).2 (ha i hi))
    have hw : wholeS ss = some (pcP P (s.cur, 0)) := by rw [h.sp]; exact whole_yes P h.ok hc ha
    have hsh := P.short _ hc
    have hhd := head_spec (P.B s.cur).length s.cur
    have hhs : headS (pcP P (s.cur, 0)) = strOfNums (hdr12 11 (P.B s.cur).length s.cur 0 (P.B s.cur).length) := by
      have e : headS (pcP P (s.cur, 0)) = (spec_Head.f 11 ((P.B s.cur).length : Int) (s.cur : Int) 0 ((P.B s.cur).length : Int)).getD ⟨#[]⟩ := rfl
      rw [e, hhd]
      rfl
    refine ⟨h1, base (fun p hp => ?_), ?_, h2, ?_, h.ok, h.few⟩
    · rw [hw] at hp
      obtain rfl := Option.some.inj hp
      refine ⟨(P.B s.cur).length, rfl, by omega, ?_, ?_, ?_⟩
      · rw [h.sp]; exact fit_spec P hc _ (P.ok_from h.ok s.cur)
      · rw [hhs]; exact hhd
      · rw [hhs, strOfNums_size]; simp [hdr12]
    · rw [h4]
      unfold sTold
      rw [if_neg (by rw [e0]; decide), hw]
      simp only
      rw [hhs, h.sp, pcP_f1, Int.toNat_natCast]
      simp only
      rw [body_spec P hc h.ok ha, ← str_app]
      exact ⟨rfl, rfl, rfl, rfl, rfl, rfl⟩
    · unfold sStep
      rw [if_neg (by rw [e0]; decide), hw, h3, h.sp]
      simp only
      rw [rest_spec]
      rfl
  · have hno : s.cur = P.N ∨ (s.cur < P.N ∧ ∃ i, i < P.m s.cur ∧ (s.cur, i) ∉ qs) := by
      by_cases e : s.cur = P.N
      · exact Or.inl e
      · have hc : s.cur < P.N := by omega
        refine Or.inr ⟨hc, ?_⟩
        apply Classical.byContradiction
        intro hx
        refine hall ⟨hc, fun i hi => ?_⟩
        apply Classical.byContradiction
        intro hy
        exact hx ⟨i, hi, hy⟩
    obtain ⟨h1, h2, h3⟩ := h.kn.stays (hno.imp id (fun ⟨_, i, hi, hm⟩ => ⟨i, hi, by
      cases hb : comes (fun _ _ => false) qs s.cur i with
      | false => rfl
      | true => exact absurd ((hcame _ _).1 hb) hm⟩))
    have hw : wholeS ss = none := by rw [h.sp]; exact whole_no P h.ok hno
    refine ⟨h1, base (fun p hp => by rw [hw] at hp; cases hp), ?_, ?_⟩
    · rw [h3]
      unfold sTold
      rw [if_neg (by rw [e0]; decide), hw]
      exact ⟨rfl, rfl, rfl, rfl, rfl, rfl⟩
    · have e : sStep ss (stepOf popC) = ss := by
        unfold sStep
        rw [if_neg (by rw [e0]; decide), hw]
      rw [e, h2]
      exact h

/-- A push of one piece, then a pop, for each piece. -/
def scr2 (P : Msgs) : Nat → List (Nat × Nat) → List Cmd
  | _, [] => [popC]
  | i, p :: qs => pushC i (P.frs [p]) :: popC :: scr2 P (i + 1) qs
theorem scr2_len (P : Msgs) : ∀ (qs : List (Nat × Nat)) (i : Nat), (scr2 P i qs).length = 2 * qs.length + 1
  | [], _ => rfl
  | p :: qs, i => by rw [scr2, List.length_cons, List.length_cons, scr2_len P qs (i + 1), List.length_cons]; omega
theorem scr2_says (P : Msgs) : ∀ (qs : List (Nat × Nat)) (i : Nat), P.ok qs → ∀ c ∈ scr2 P i qs, Says c
  | [], _, _, c, h => by
    obtain rfl : c = popC := by simpa [scr2] using h
    exact says_pop
  | p :: qs, i, hq, c, h => by
    rcases List.mem_cons.1 h with rfl | h
    · exact says_push i _ (P.frs_ok (fun x hx => hq x (by
        obtain rfl : x = p := by simpa using hx
        simp)))
    · rcases List.mem_cons.1 h with rfl | h
      · exact says_pop
      · exact scr2_says P qs (i + 1) (fun x hx => hq x (by simp [hx])) c h
inductive Alks : List S43 → List S43 → Prop
  | nil : Alks [] []
  | cons {a b : S43} {l m : List S43} : Alk a b → Alks l m → Alks (a :: l) (b :: m)
theorem scr2_run {P : Msgs} : ∀ (rest qs : List (Nat × Nat)) (i : Nat) (s : St) (ss : SS), SRel P qs s ss → P.ok rest → i + rest.length ≤ 65536 → qs.length + rest.length ≤ 1000 →
    RunOk s (scr2 P i rest) ∧ SRunOk ss ((scr2 P i rest).map stepOf) ∧ Alks (runTold s (scr2 P i rest)) (sTolds ss ((scr2 P i rest).map stepOf))
  | [], qs, i, s, ss, h, _, _, _ => by
    obtain ⟨h1, h2, h3, _⟩ := h.pop
    exact ⟨⟨h1, trivial⟩, ⟨h2, trivial⟩, Alks.cons h3 Alks.nil⟩
  | p :: rest, qs, i, s, ss, h, hr, hi, hl => by
    rw [List.length_cons] at hi hl
    obtain ⟨h1, h2, h3, h4⟩ := h.push (i := i) (by omega) (hr p (by simp)) (by omega)
    obtain ⟨h5, h6, h7, h8⟩ := h4.pop
    obtain ⟨h9, h10, h11⟩ := scr2_run rest (qs ++ [p]) (i + 1) _ _ h8 (fun x hx => hr x (by simp [hx])) (by omega) (by simp; omega)
    exact ⟨⟨h1, h5, h9⟩, ⟨h2, h6, h10⟩, Alks.cons h3 (Alks.cons h7 h11)⟩
theorem srel_zero (P : Msgs) : SRel P [] st0 ss0 := ⟨kn_zero P, rfl, (fun _ h => by cases h), by simp⟩

end Go.Proofs.YtblmbbllfiigmaaDoor
