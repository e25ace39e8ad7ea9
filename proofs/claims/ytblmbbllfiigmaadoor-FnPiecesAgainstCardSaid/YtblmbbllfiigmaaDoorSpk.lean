/-
  The reference's buffer, when pieces of messages came: plain laws.
-/
import Derived.Test.YtblmbbllfiigmaaDoorFrs
namespace Go.Proofs.YtblmbbllfiigmaaDoor
open Go.RowKit Go.Proofs.YtblmbbllfiigmaaDoorW.PrintWords Go.Proofs.YtblmbbllfiigmaaDoorW.PrintLast Go.Proofs.YtblmbbllfiigmaaDoorW.PrintMore PAll

/-- A piece as the reference holds it; what it holds of the messages from one on. -/
def pcP (P : Msgs) (p : Nat × Nat) : S68 := pcOf (P.fr p.1 p.2)
def fromQ (cur : Nat) (qs : List (Nat × Nat)) : List (Nat × Nat) := qs.filter fun p => decide (cur ≤ p.1)
def specL (P : Msgs) (cur : Nat) (qs : List (Nat × Nat)) : List S68 := (fromQ cur qs).map (pcP P)
theorem pcP_f1 (P : Msgs) (p : Nat × Nat) : (pcP P p).f1 = ((P.B p.1).length : Int) := rfl
theorem pcP_f2 (P : Msgs) (p : Nat × Nat) : (pcP P p).f2 = (p.1 : Int) := rfl
theorem pcP_f3 (P : Msgs) (p : Nat × Nat) : (pcP P p).f3 = ((p.2 * P.n p.1 : Nat) : Int) := rfl
theorem pcP_f4 (P : Msgs) (p : Nat × Nat) : (pcP P p).f4 = strOfNums (chk (P.B p.1) (P.n p.1) p.2) := rfl
theorem pcP_size (P : Msgs) (p : Nat × Nat) : (pcP P p).f4.size = min (P.n p.1) ((P.B p.1).length - p.2 * P.n p.1) := by
  rw [pcP_f4, strOfNums_size, chk_len]
theorem pcP_bytes (P : Msgs) (p : Nat × Nat) (hp : p.1 < P.N) : bytesOf (pcP P p).f4 = chk (P.B p.1) (P.n p.1) p.2 := by
  rw [pcP_f4]
  refine bytes_str _ (fun x hx => P.byt p.1 hp x ?_)
  unfold chk at hx
  exact List.mem_of_mem_drop (List.mem_of_mem_take hx)
theorem fromQ_mem {cur : Nat} {qs : List (Nat × Nat)} {p : Nat × Nat} : p ∈ fromQ cur qs ↔ p ∈ qs ∧ cur ≤ p.1 := by
  unfold fromQ
  rw [List.mem_filter, decide_eq_true_iff]
theorem Msgs.ok_from {P : Msgs} {qs : List (Nat × Nat)} (h : P.ok qs) (cur : Nat) : P.ok (fromQ cur qs) := fun p hp => h p (fromQ_mem.1 hp).1

theorem rest_spec (P : Msgs) (cur : Nat) (qs : List (Nat × Nat)) : restS (cur : Int) (specL P cur qs) = specL P (cur + 1) qs := by
  unfold restS specL fromQ
  rw [List.filter_map, List.filter_filter]
  congr 1
  apply List.filter_congr
  intro p _
  simp only [Function.comp, pcP_f2]
  by_cases h : p.1 = cur
  · rw [h]; simp
  · have h1 : ((p.1 : Int) == (cur : Int)) = false := by simp; omega
    rw [h1]
    simp only [Bool.not_false, Bool.true_and]
    rw [decide_eq_decide]
    omega
theorem push_spec (P : Msgs) (cur : Nat) (qs : List (Nat × Nat)) (p : Nat × Nat) : pushS (cur : Int) (specL P cur qs) (P.fr p.1 p.2) = specL P cur (qs ++ [p]) := by
  unfold pushS specL fromQ
  rw [List.filter_append, List.map_append]
  have e : (P.fr p.1 p.2).seq = p.1 := rfl
  rw [e]
  by_cases h : p.1 < cur
  · rw [if_pos (by omega), List.filter_cons_of_neg (by simp; omega)]
    simp
  · rw [if_neg (by omega), List.filter_cons_of_pos (by simp; omega)]
    rfl

theorem start_spec (P : Msgs) (cur : Nat) : ∀ (ps : List (Nat × Nat)), P.ok ps → startS (cur : Int) (ps.map (pcP P)) = if (cur, 0) ∈ ps then some (pcP P (cur, 0)) else none
  | [], _ => rfl
  | p :: ps, h => by
    have ih := start_spec P cur ps (fun x hx => h x (by simp [hx]))
    have hp := h p (by simp)
    have hn := (P.cuts p.1 hp.1).n1
    rw [List.map_cons, startS, ih, pcP_f2, pcP_f3]
    by_cases e : p = (cur, 0)
    · subst e
      rw [if_pos (by simp), if_pos (by simp)]
    · have h2 : ¬ ((p.1 : Int) = (cur : Int) ∧ ((p.2 * P.n p.1 : Nat) : Int) = 0) := fun ⟨h1, h2⟩ => e (by
        have h3 : p.2 * P.n p.1 = 0 := by omega
        rcases Nat.mul_eq_zero.1 h3 with h3 | h3
        · exact Prod.ext (by simp; omega) h3
        · omega)
      rw [if_neg h2]
      have e2 : ((cur, 0) ∈ p :: ps) ↔ (cur, 0) ∈ ps := by
        rw [List.mem_cons]
        exact ⟨fun h => h.resolve_left (fun h => e h.symm), Or.inr⟩
      simp only [e2]

/-! ### covered -/
theorem cov_miss (P : Msgs) {cur i0 : Nat} (hc : cur < P.N) : ∀ (ps : List (Nat × Nat)) (n : Int), (cur, i0) ∉ ps → n ≤ ((i0 * P.n cur : Nat) : Int) → covPass (cur : Int) (ps.map (pcP P)) n ≤ ((i0 * P.n cur : Nat) : Int)
  | [], n, _, hn => hn
  | p :: ps, n, hm, hn => by
    rw [List.map_cons, covPass, List.foldl_cons]
    refine cov_miss P hc ps _ (fun h => hm (by simp [h])) ?_
    unfold covStep
    split
    · rename_i hx
      rw [pcP_f2, pcP_f3] at hx
      have e1 : p.1 = cur := by omega
      rw [pcP_f3, pcP_size, e1]
      rw [e1] at hx
      have hne : p.2 ≠ i0 := fun e => hm (by
        have : p = (cur, i0) := Prod.ext e1 e
        simp [this])
      have hn1 := (P.cuts cur hc).n1
      have hle : p.2 * P.n cur ≤ i0 * P.n cur := by omega
      have hlt : p.2 < i0 := by
        have := Nat.le_of_mul_le_mul_right hle (by omega)
        omega
      have hs := mul_step (P.n cur) hlt
      unfold mx
      split <;> omega
    · exact hn
theorem cov_miss_all (P : Msgs) {cur i0 : Nat} (hc : cur < P.N) (ps : List (Nat × Nat)) (hm : (cur, i0) ∉ ps) : ∀ t, covIter (cur : Int) (ps.map (pcP P)) t ≤ ((i0 * P.n cur : Nat) : Int)
  | 0 => by rw [covIter]; omega
  | t + 1 => cov_miss P hc ps _ hm (cov_miss_all P hc ps hm t)

theorem covStep_ge (q n : Int) (p : S68) : n ≤ covStep q n p := by
  unfold covStep mx
  split
  · split <;> omega
  · exact Int.le_refl _
theorem covPass_ge (q : Int) : ∀ (l : List S68) (n : Int), n ≤ covPass q l n
  | [], n => Int.le_refl _
  | p :: l, n => by
    rw [covPass, List.foldl_cons]
    exact Int.le_trans (covStep_ge q n p) (covPass_ge q l _)
theorem cov_has (P : Msgs) {cur t : Nat} : ∀ (ps : List (Nat × Nat)) (n : Int), (cur, t) ∈ ps → ((t * P.n cur : Nat) : Int) ≤ n → ((min ((t + 1) * P.n cur) (P.B cur).length : Nat) : Int) ≤ covPass (cur : Int) (ps.map (pcP P)) n
  | [], n, h, _ => by cases h
  | p :: ps, n, h, hn => by
    rw [List.map_cons, covPass, List.foldl_cons]
    by_cases e : p = (cur, t)
    · subst e
      refine Int.le_trans ?_ (covPass_ge _ _ _)
      unfold covStep
      rw [pcP_f2, pcP_f3, pcP_size, if_pos ⟨rfl, hn⟩]
      simp only
      rw [Nat.succ_mul]
      unfold mx
      split <;> omega
    · exact cov_has P ps _ ((List.mem_cons.1 h).resolve_left (fun e2 => e e2.symm)) (Int.le_trans hn (covStep_ge _ _ _))
theorem cov_all (P : Msgs) {cur : Nat} (hc : cur < P.N) (ps : List (Nat × Nat)) (ha : ∀ i, i < P.m cur → (cur, i) ∈ ps) : ∀ t : Nat, ((min (t * P.n cur) (P.B cur).length : Nat) : Int) ≤ covIter (cur : Int) (ps.map (pcP P)) t
  | 0 => by simp [covIter]
  | t + 1 => by
    have ih := cov_all P hc ps ha t
    rw [covIter]
    by_cases h : (P.B cur).length ≤ t * P.n cur
    · refine Int.le_trans ?_ (covPass_ge _ _ _)
      have h2 := Nat.succ_mul t (P.n cur)
      omega
    · refine cov_has P ps _ (ha t ?_) (by omega)
      have h1 := (P.cuts cur hc).all
      by_cases h2 : t < P.m cur
      · exact h2
      · have := Nat.mul_le_mul_right (P.n cur) (show P.m cur ≤ t by omega)
        omega
theorem many_pieces (P : Msgs) {cur : Nat} (ps : List (Nat × Nat)) (ha : ∀ i, i < P.m cur → (cur, i) ∈ ps) : P.m cur ≤ ps.length := by
  have h := List.Nodup.length_le_of_subset (l₁ := (List.range (P.m cur)).map fun i => (cur, i)) (l₂ := ps) (by
    refine List.Pairwise.map _ (fun a b hab e => hab ?_) List.nodup_range
    injection e) (fun x hx => by
    obtain ⟨i, hi, rfl⟩ := List.mem_map.1 hx
    exact ha i (by simpa using hi))
  simpa using h

/-- The next message is whole just where all its pieces came. -/
theorem whole_yes (P : Msgs) {cur : Nat} {qs : List (Nat × Nat)} (hq : P.ok qs) (hc : cur < P.N) (ha : ∀ i, i < P.m cur → (cur, i) ∈ qs) : wholeS ⟨specL P cur qs, (cur : Int)⟩ = some (pcP P (cur, 0)) := by
  have ha2 : ∀ i, i < P.m cur → (cur, i) ∈ fromQ cur qs := fun i hi => fromQ_mem.2 ⟨ha i hi, Nat.le_refl _⟩
  have hcut := P.cuts cur hc
  unfold wholeS specL
  simp only
  rw [start_spec P cur _ (P.ok_from hq cur), if_pos (ha2 0 hcut.m1)]
  simp only
  rw [if_pos]
  rw [pcP_f1, List.length_map]
  refine Int.le_trans ?_ (cov_all P hc (fromQ cur qs) ha2 (fromQ cur qs).length)
  have h1 := many_pieces P (fromQ cur qs) ha2
  have h2 := Nat.mul_le_mul_right (P.n cur) h1
  have h3 := hcut.all
  simp only
  omega
theorem whole_no (P : Msgs) {cur : Nat} {qs : List (Nat × Nat)} (hq : P.ok qs) (hno : cur = P.N ∨ (cur < P.N ∧ ∃ i, i < P.m cur ∧ (cur, i) ∉ qs)) : wholeS ⟨specL P cur qs, (cur : Int)⟩ = none := by
  unfold wholeS specL
  simp only
  rw [start_spec P cur _ (P.ok_from hq cur)]
  by_cases h0 : (cur, 0) ∈ fromQ cur qs
  · rw [if_pos h0]
    simp only
    have h0q := (hq _ (fromQ_mem.1 h0).1).1
    simp only at h0q
    rcases hno with e | ⟨hc, i, hi, hm⟩
    · omega
    · have hcut := P.cuts cur hc
      have hm2 : (cur, i) ∉ fromQ cur qs := fun h => hm (fromQ_mem.1 h).1
      have := cov_miss_all P hc (fromQ cur qs) hm2 ((fromQ cur qs).map (pcP P)).length
      have hi0 : i ≠ 0 := fun e => by rw [e] at hm2; exact hm2 h0
      have hlt := (hcut.inn i hi).resolve_right hi0
      rw [if_neg]
      rw [pcP_f1]
      simp only
      omega
  · rw [if_neg h0]

/-! ### the message put together -/
theorem splice_get {L cs : List Int} {o j : Nat} (h : o + cs.length ≤ L.length) (hj : j < L.length) : (splice L o cs)[j]? = if o ≤ j ∧ j < o + cs.length then cs[j - o]? else L[j]? := by
  unfold splice
  by_cases h1 : j < o
  · rw [if_neg (by omega), List.getElem?_append_left (by simp; omega), List.getElem?_take, if_pos h1]
  · rw [List.getElem?_append_right (by simp; omega)]
    have e : j - (L.take o).length = j - o := by simp; omega
    rw [e]
    by_cases h2 : j < o + cs.length
    · rw [if_pos ⟨by omega, h2⟩, List.getElem?_append_left (by omega)]
    · rw [if_neg (by omega), List.getElem?_append_right (by omega), List.getElem?_drop]
      congr 1
      omega
theorem chk_get (B : List Int) (n i j : Nat) (h1 : i * n ≤ j) (h2 : j < i * n + (chk B n i).length) : (chk B n i)[j - i * n]? = B[j]? := by
  rw [chk_len] at h2
  unfold chk
  rw [List.getElem?_take, if_pos (by omega), List.getElem?_drop]
  congr 1
  omega
theorem fit_spec (P : Msgs) {cur : Nat} (hc : cur < P.N) (ps : List (Nat × Nat)) (hp : P.ok ps) : FitS (cur : Int) (ps.map (pcP P)) (P.B cur).length := by
  intro x hx hxc
  obtain ⟨p, hpm, rfl⟩ := List.mem_map.1 hx
  rw [pcP_f2] at hxc
  have e : p.1 = cur := by omega
  refine ⟨p.2 * P.n p.1, rfl, ?_⟩
  have h2 := (hp p hpm).2
  rw [pcP_size, e]
  rw [e] at h2
  rcases (P.cuts cur hc).inn p.2 h2 with h | h
  · omega
  · rw [h, Nat.zero_mul]; omega
/-- Where a piece that came lies, the row has the message's bytes. -/
theorem body_inv (P : Msgs) {cur : Nat} (hc : cur < P.N) : ∀ (ps : List (Nat × Nat)) (b : List Int) (S : Nat → Prop), P.ok ps → b.length = (P.B cur).length → (∀ j, j < (P.B cur).length → S j → b[j]? = (P.B cur)[j]?) →
    ∀ j, j < (P.B cur).length → (S j ∨ ∃ i, (cur, i) ∈ ps ∧ i * P.n cur ≤ j ∧ j < i * P.n cur + P.n cur) → ((ps.map (pcP P)).foldl (bodyStep (cur : Int)) b)[j]? = (P.B cur)[j]?
  | [], b, S, _, _, h, j, hj, hs => by
    rcases hs with hs | ⟨i, hi, _⟩
    · exact h j hj hs
    · cases hi
  | p :: ps, b, S, hp, hl, h, j, hj, hs => by
    have hpp := hp p (by simp)
    rw [List.map_cons, List.foldl_cons]
    by_cases e : p.1 = cur
    · have hb : bodyStep (cur : Int) b (pcP P p) = splice b (p.2 * P.n cur) (chk (P.B cur) (P.n cur) p.2) := by
        unfold bodyStep
        rw [pcP_f2, pcP_f3, pcP_bytes P p hpp.1, e, if_pos rfl, Int.toNat_natCast]
      have hfit : p.2 * P.n cur + (chk (P.B cur) (P.n cur) p.2).length ≤ b.length := by
        have h2 := hpp.2
        rw [e] at h2
        rw [chk_len, hl]
        rcases (P.cuts cur hc).inn p.2 h2 with h | h
        · omega
        · rw [h, Nat.zero_mul]; omega
      rw [hb]
      refine body_inv P hc ps _ (fun j => S j ∨ (p.2 * P.n cur ≤ j ∧ j < p.2 * P.n cur + P.n cur)) (fun x hx => hp x (by simp [hx])) (by rw [length_splice _ _ _ hfit, hl]) (fun k hk hsk => ?_) j hj ?_
      · rw [splice_get hfit (by omega)]
        split
        · rename_i hin
          exact chk_get _ _ _ _ hin.1 hin.2
        · rename_i hin
          rcases hsk with hsk | hsk
          · exact h k hk hsk
          · rw [chk_len] at hin
            omega
      · rcases hs with hs | ⟨i, hi, h1, h2⟩
        · exact Or.inl (Or.inl hs)
        · rcases List.mem_cons.1 hi with hi | hi
          · left; right
            rw [← hi]
            exact ⟨h1, h2⟩
          · exact Or.inr ⟨i, hi, h1, h2⟩
    · have hb : bodyStep (cur : Int) b (pcP P p) = b := by
        unfold bodyStep
        rw [pcP_f2, if_neg (by omega)]
      rw [hb]
      refine body_inv P hc ps b S (fun x hx => hp x (by simp [hx])) hl h j hj ?_
      rcases hs with hs | ⟨i, hi, h1, h2⟩
      · exact Or.inl hs
      · rcases List.mem_cons.1 hi with hi | hi
        · rw [← hi] at e
          exact absurd rfl e
        · exact Or.inr ⟨i, hi, h1, h2⟩
theorem body_spec (P : Msgs) {cur : Nat} (hc : cur < P.N) {qs : List (Nat × Nat)} (hq : P.ok qs) (ha : ∀ i, i < P.m cur → (cur, i) ∈ qs) : bodyS (cur : Int) (specL P cur qs) (P.B cur).length = P.B cur := by
  have hok := P.ok_from hq cur
  have hcut := P.cuts cur hc
  apply List.ext_getElem?
  intro j
  by_cases hj : j < (P.B cur).length
  · unfold bodyS specL
    refine body_inv P hc (fromQ cur qs) _ (fun _ => False) hok (by simp) (fun _ _ h => h.elim) j hj (Or.inr ⟨j / P.n cur, fromQ_mem.2 ⟨ha _ ?_, Nat.le_refl _⟩, Nat.div_mul_le_self _ _, Nat.lt_div_mul_add hcut.n1⟩)
    have h1 := hcut.all
    rw [Nat.div_lt_iff_lt_mul hcut.n1]
    omega
  · have hl : (bodyS (cur : Int) (specL P cur qs) (P.B cur).length).length = (P.B cur).length := body_len (fit_spec P hc (fromQ cur qs) hok) (by simp)
    rw [List.getElem?_eq_none (by omega), List.getElem?_eq_none (by omega)]

/-- The header. -/
theorem head_spec (n q : Nat) : spec_Head.f 11 (n : Int) (q : Int) 0 (n : Int) = some (strOfNums (hdr12 11 n q 0 n)) := by
  unfold spec_Head.f spec_three.f spec_two.f
  simp only [Option.bind_some]
  rw [if_pos (by simp [strOfNums_size]), if_pos (by simp [strOfNums_size]), if_pos (by simp [strOfNums_size]), if_pos (by simp [strOfNums_size])]
  rw [← str_app, ← str_app, ← str_app, ← str_app]
  rfl

end Go.Proofs.YtblmbbllfiigmaaDoor
