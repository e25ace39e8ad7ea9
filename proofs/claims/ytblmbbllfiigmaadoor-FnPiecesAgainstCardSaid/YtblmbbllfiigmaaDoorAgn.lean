/-
  FnPiecesAgainst answers true.
-/
import Derived.Test.YtblmbbllfiigmaaDoorSpf
import Derived.Test.YtblmbbllfiigmaaDoorPAllb5
namespace Go.Proofs.YtblmbbllfiigmaaDoor
open Go.RowKit Go.Proofs.YtblmbbllfiigmaaDoorW.PrintWords Go.Proofs.YtblmbbllfiigmaaDoorW.PrintLast Go.Proofs.YtblmbbllfiigmaaDoorW.PrintMore PAll

/-! ### shuffle -/
theorem swap_perm (l : List ByteArray) (i j : Nat) (hi : i < l.length) (hj : j < l.length) : ((l.set i l[j]).set j l[i]).Perm l := by
  have h := Array.swap_perm (xs := l.toArray) (i := i) (j := j) (by simpa using hi) (by simpa using hj)
  rw [Array.perm_iff_toList_perm] at h
  simpa [Array.swap] using h
theorem shuffle_loop (by_ : List Int) : ∀ (d : Nat) (l : List ByteArray), d < l.length → l.length ≤ 100000 → ∃ l', l'.Perm l ∧ Ev (fun k => laws_shuffle.l0 k by_ l (d : Int)) l'
  | 0, l, _, _ => by
    refine ⟨l, List.Perm.refl _, Ev.step (G := fun _ => some l) (Ev.const _) (fun k => ?_)⟩
    rw [laws_shuffle.l0, if_neg (by omega)]
  | d + 1, l, hd, hl => by
    have e1 : wrap64 (((d + 1 : Nat) : Int) - 1) = (d : Int) := by rw [w64_small _ (by omega) (by omega)]; omega
    have e2 : wrap64 (((d + 1 : Nat) : Int) + 1) = ((d + 2 : Nat) : Int) := by rw [w64_small _ (by omega) (by omega)]; omega
    have hget : ∀ (j : Nat) (hj : j < l.length), rdOf ByteArray.empty l (j : Int) = l[j] := fun j hj => rdOf_at _ l j _ (List.getElem?_eq_getElem hj)
    -- the index that is drawn
    have key : ∀ t : Nat, (ht : t < l.length) → ∃ l', l'.Perm l ∧ Ev (fun k => laws_shuffle.l0 k by_ ((l.set (d + 1) l[t]).set t l[d + 1]) (d : Int)) l' := fun t ht => by
      have hlen : ((l.set (d + 1) l[t]).set t l[d + 1]).length = l.length := by simp
      obtain ⟨l', h1, h2⟩ := shuffle_loop by_ d ((l.set (d + 1) l[t]).set t l[d + 1]) (by omega) (by omega)
      exact ⟨l', h1.trans (swap_perm l (d + 1) t hd ht), h2⟩
    by_cases hb : ((d + 1 : Nat) : Int) < (by_.length : Int)
    · obtain ⟨t, ht, hw⟩ : ∃ t : Nat, t < d + 2 ∧ laws_within.f (rd by_ ((d + 1 : Nat) : Int)) ((d + 2 : Nat) : Int) = some (t : Int) := by
        generalize rd by_ ((d + 1 : Nat) : Int) = v
        have h1 := Int.tmod_lt_of_pos v (show (0 : Int) < ((d + 2 : Nat) : Int) by omega)
        have h2 : -((d + 2 : Nat) : Int) < Int.tmod v ((d + 2 : Nat) : Int) := by
          have := Int.lt_tmod_of_pos v (show (0 : Int) < ((d + 2 : Nat) : Int) by omega)
          omega
        unfold laws_within.f
        rw [if_neg (by omega)]
        generalize Int.tmod v ((d + 2 : Nat) : Int) = z at h1 h2 ⊢
        by_cases hz : z < 0
        · refine ⟨(z + ((d + 2 : Nat) : Int)).toNat, by omega, ?_⟩
          rw [if_pos hz, w64_small _ (by omega) (by omega)]
          congr 1
          omega
        · refine ⟨z.toNat, by omega, ?_⟩
          rw [if_neg hz]
          congr 1
          omega
      obtain ⟨l', h1, h2⟩ := key t (by omega)
      refine ⟨l', h1, Ev.step h2 (fun k => ?_)⟩
      rw [laws_shuffle.l0, if_pos (by omega), if_pos hb, if_pos (by omega), e2, hw]
      simp only [Option.bind_some]
      rw [if_pos (by omega), if_pos (by omega), if_pos (by omega), e1, hget t (by omega), hget (d + 1) hd, Int.toNat_natCast, Int.toNat_natCast]
    · obtain ⟨l', h1, h2⟩ := key (d + 1) hd
      refine ⟨l', h1, Ev.step h2 (fun k => ?_)⟩
      rw [laws_shuffle.l0, if_pos (by omega), if_neg hb, if_pos (by omega), if_pos (by omega), e1, hget (d + 1) hd, Int.toNat_natCast]
theorem shuffle_ev (l : List ByteArray) (by_ : List Int) (hne : l ≠ []) (hl : l.length ≤ 100000) : ∃ l', l'.Perm l ∧ Ev (fun k => laws_shuffle.f k l by_) l' := by
  have h0 : 0 < l.length := List.length_pos_iff.2 hne
  obtain ⟨l', h1, h2⟩ := shuffle_loop by_ (l.length - 1) l (by omega) hl
  refine ⟨l', h1, ?_⟩
  have e : wrap64 ((l.length : Int) - 1) = ((l.length - 1 : Nat) : Int) := by rw [w64_small _ (by omega) (by omega)]; omega
  refine h2.congr (fun k => ?_)
  unfold laws_shuffle.f
  simp only [Option.bind_some, List.nil_append, List.length_nil]
  rw [if_pos (by omega), e]

theorem fits_loop (l : List ByteArray) (hl : l.length ≤ 2147483647) : ∀ (d i : Nat), i + d = l.length →
    ∃ r : Bool, Ev (fun k => laws_zzFits2.l0 k l (l.length : Int) (i : Int)) r ∧ (r = true → ∀ b ∈ l.drop i, b.size ≤ 2147483647)
  | 0, i, h => by
    refine ⟨true, Ev.step (G := fun _ => some true) (Ev.const _) (fun k => ?_), fun _ b hb => ?_⟩
    · rw [laws_zzFits2.l0, if_neg (by omega)]
    · rw [List.drop_of_length_le (by omega)] at hb; cases hb
  | d + 1, i, h => by
    have hi : i < l.length := by omega
    obtain ⟨r, h1, h2⟩ := fits_loop l hl d (i + 1) (by omega)
    by_cases hb : ((l[i].size : Nat) : Int) > 2147483647
    · refine ⟨false, Ev.step (G := fun _ => some false) (Ev.const _) (fun k => ?_), fun h => by cases h⟩
      rw [laws_zzFits2.l0, if_pos (by omega), if_pos (by omega), if_pos (by omega), rdOf_at _ l i l[i] (List.getElem?_eq_getElem hi), if_pos hb]
    · refine ⟨r, Ev.step h1 (fun k => ?_), fun hr b hm => ?_⟩
      · rw [laws_zzFits2.l0, if_pos (by omega), if_pos (by omega), if_pos (by omega), rdOf_at _ l i l[i] (List.getElem?_eq_getElem hi), if_neg hb, w64_succ _ (by omega)]
      · rw [List.drop_eq_getElem_cons hi] at hm
        rcases List.mem_cons.1 hm with rfl | hm
        · omega
        · exact h2 hr b hm
theorem fits_ev (l : List ByteArray) : ∃ r : Bool, Ev (fun k => laws_zzFits2.f k l) r ∧ (r = true → l.length ≤ 2147483647 ∧ ∀ b ∈ l, b.size ≤ 2147483647) := by
  by_cases hl : (l.length : Int) > 2147483647
  · exact ⟨false, Ev.ite hl (Ev.const _), fun h => by cases h⟩
  · obtain ⟨r, h1, h2⟩ := fits_loop l (by omega) l.length 0 (by omega)
    refine ⟨r, Ev.els hl h1, fun hr => ⟨by omega, fun b hb => h2 hr b (by simpa using hb)⟩⟩

theorem size_le_sizes : ∀ (l : List ByteArray) (b : ByteArray), b ∈ l → b.size ≤ sizes l
  | [], _, h => by cases h
  | x :: l, b, h => by
    have e : sizes (x :: l) = x.size + sizes l := by simp [sizes]
    rcases List.mem_cons.1 h with rfl | h
    · omega
    · have := size_le_sizes l b h; omega

/-- The bodies, cut to one length. -/
def bodiesP (l : List ByteArray) (n : Nat) (h8 : l.length ≤ 8) (h1 : 1 ≤ n) (hs : ∀ b ∈ l, b.size < 600) (hn : ∀ b ∈ l, 8 ≤ n ∨ b.size < 100) : Msgs :=
  have hb : ∀ k, k < l.length → l.getD k ByteArray.empty ∈ l := fun k hk => by
    rw [List.getD_eq_getElem?_getD, List.getElem?_eq_getElem hk]
    exact List.getElem_mem hk
  ⟨l.length, fun k => bytesOf (l.getD k ByteArray.empty), fun _ => n, fun k => cntOf (l.getD k ByteArray.empty).size n, h8,
   fun k hk => by
     have hm := hb k hk
     have := hs _ hm
     have h2 := cnt_few _ n h1 this (hn _ hm)
     exact cuts_of _ n h1 (by omega) (by omega),
   fun k hk => by
     have := hs _ (hb k hk)
     rw [bytesOf_length]; omega,
   fun k hk => cnt_few _ n h1 (hs _ (hb k hk)) (hn _ (hb k hk)),
   fun k _ => bytes_byt _⟩

/-- The numbers of all pieces of the first messages. -/
def ixs (P : Msgs) : Nat → List (Nat × Nat)
  | 0 => []
  | i + 1 => ixs P i ++ (List.range (P.m i)).map fun j => (i, j)
theorem ixs_mem (P : Msgs) : ∀ (i : Nat) (p : Nat × Nat), p ∈ ixs P i ↔ p.1 < i ∧ p.2 < P.m p.1
  | 0, p => by simp [ixs]
  | i + 1, p => by
    rw [ixs, List.mem_append, ixs_mem P i p]
    constructor
    · rintro (h | h)
      · exact ⟨by omega, h.2⟩
      · obtain ⟨j, hj, rfl⟩ := List.mem_map.1 h
        exact ⟨by simp, by simpa using hj⟩
    · rintro ⟨h1, h2⟩
      by_cases e : p.1 = i
      · right
        refine List.mem_map.2 ⟨p.2, ?_, ?_⟩
        · rw [← e]; simpa using h2
        · rw [← e]
      · exact Or.inl ⟨by omega, h2⟩
theorem ixs_len (P : Msgs) : ∀ (i : Nat), i ≤ P.N → (ixs P i).length ≤ i * 100
  | 0, _ => by simp [ixs]
  | i + 1, h => by
    have h1 := ixs_len P i (by omega)
    have h2 := P.few i (by omega)
    rw [ixs, List.length_append, List.length_map, List.length_range, Nat.succ_mul]
    omega
/-- The text of a piece. -/
def tx (P : Msgs) (p : Nat × Nat) : ByteArray := strOfNums (enc (P.fr p.1 p.2))


/-- A push and a pop for each piece. -/
def scr3 (P : Msgs) : Nat → List (Nat × Nat) → List Cmd
  | _, [] => []
  | i, p :: qs => pushC i (P.frs [p]) :: popC :: scr3 P (i + 1) qs
theorem scr3_end (P : Msgs) : ∀ (qs : List (Nat × Nat)) (i : Nat), scr3 P i qs ++ [popC] = scr2 P i qs
  | [], _ => rfl
  | p :: qs, i => by rw [scr3, scr2, List.cons_append, List.cons_append, scr3_end P qs (i + 1)]
theorem scr3_snoc (P : Msgs) (p : Nat × Nat) : ∀ (qs : List (Nat × Nat)) (i : Nat), scr3 P i (qs ++ [p]) = scr3 P i qs ++ [pushC (i + qs.length) (P.frs [p]), popC]
  | [], _ => rfl
  | q :: qs, i => by
    rw [List.cons_append, scr3, scr3_snoc P p qs (i + 1), scr3, List.length_cons, show i + 1 + qs.length = i + (qs.length + 1) from by omega]
    rfl
theorem scr3_len (P : Msgs) : ∀ (qs : List (Nat × Nat)) (i : Nat), (scr3 P i qs).length = 2 * qs.length
  | [], _ => rfl
  | p :: qs, i => by rw [scr3, List.length_cons, List.length_cons, scr3_len P qs (i + 1), List.length_cons]; omega
theorem scr2_ok (P : Msgs) : ∀ (qs : List (Nat × Nat)) (i : Nat), P.ok qs → i + qs.length ≤ 65536 → ∀ x ∈ (scr2 P i qs).map stepOf, OkStep P x
  | [], i, _, _, x, h => by
    obtain rfl : x = stepOf popC := by simpa [scr2] using h
    exact Or.inl rfl
  | p :: qs, i, hq, hl, x, h => by
    rw [List.length_cons] at hl
    rw [scr2, List.map_cons, List.map_cons] at h
    rcases List.mem_cons.1 h with rfl | h
    · exact Or.inr ⟨i, p, by omega, hq p (by simp), rfl⟩
    · rcases List.mem_cons.1 h with rfl | h
      · exact Or.inl rfl
      · exact scr2_ok P qs (i + 1) (fun x hx => hq x (by simp [hx])) (by omega) x h

theorem rd_T43_at (l : List S43) (i : Nat) (x : S43) (h : l[i]? = some x) : rd_T43 l (i : Int) = x := by
  rw [rd_T43, Int.toNat_natCast, List.getD_eq_getElem?_getD, h]
  rfl
theorem Alks.len {a b : List S43} (h : Alks a b) : a.length = b.length := by
  induction h with
  | nil => rfl
  | cons _ _ ih => rw [List.length_cons, List.length_cons, ih]
theorem Alks.get {a b : List S43} (h : Alks a b) : ∀ (i : Nat), i < a.length → ∃ x y, a[i]? = some x ∧ b[i]? = some y ∧ Alk x y := by
  induction h with
  | nil => intro i hi; simp at hi
  | cons hx _ ih =>
    intro i hi
    cases i with
    | zero => exact ⟨_, _, rfl, rfl, hx⟩
    | succ i =>
      obtain ⟨x, y, h1, h2, h3⟩ := ih i (by simpa using hi)
      exact ⟨x, y, by simpa using h1, by simpa using h2, h3⟩
theorem agn_cmp (a b : List S43) (h : Alks a b) (hl : a.length ≤ 1000000) : ∀ (d i : Nat), i + d = a.length → Ev (fun k => laws_FnPiecesAgainst.l2 k a b (a.length : Int) (i : Int)) true
  | 0, i, hi => by
    refine Ev.step (G := fun _ => some true) (Ev.const _) (fun k => ?_)
    rw [laws_FnPiecesAgainst.l2, if_neg (by omega)]
  | d + 1, i, hi => by
    obtain ⟨x, y, hx, hy, h0, h1, h2, h3, h4, h5⟩ := h.get i (by omega)
    have hlen := h.len
    refine Ev.step (agn_cmp a b h hl d (i + 1) (by omega)) (fun k => ?_)
    rw [laws_FnPiecesAgainst.l2, if_pos (by omega), if_pos (by omega), if_pos (by omega), if_pos (by omega), rd_T43_at a i x hx, rd_T43_at b i y hy,
      if_neg (by rw [h3]; simp), if_pos (by rw [h4]), if_neg (by rw [h2]; simp), if_neg (by rw [h0]; simp), if_neg (by rw [h1]; simp), if_pos h5, w64_succ _ (by omega)]

/-- The script is run, and compared. -/
theorem agn_end (P : Msgs) (qs : List (Nat × Nat)) (hq : P.ok qs) (hl : qs.length ≤ 1000) (X : List S40) (hX : X = (scr2 P 0 qs).map stepOf) :
    Ev (fun k => (spec_FragmentsKnown.f k X).bind fun t348 => (if t348 = true then ((impl_Fragments.f k X).bind fun t349 => ((spec_Fragments.f k X).bind fun t352 => (if (t349.length : Int) = (X.length : Int) then (laws_FnPiecesAgainst.j5 k t349 t352 ((t352.length : Int) != (X.length : Int))) else (laws_FnPiecesAgainst.j5 k t349 t352 true)))) else (some true))) true := by
  subst hX
  have hlen := scr2_len P qs 0
  obtain ⟨h1, h2, h3⟩ := scr2_run qs [] 0 st0 ss0 (srel_zero P) hq (by omega) (by simp; omega)
  have hXl : ((scr2 P 0 qs).map stepOf).length = 2 * qs.length + 1 := by rw [List.length_map, hlen]
  obtain ⟨r, hk⟩ := fk_ev P _ (scr2_ok P qs 0 hq (by omega)) (by omega)
  refine Ev.bind hk ?_
  cases r with
  | false => exact Ev.els (by decide) (Ev.const _)
  | true =>
    refine Ev.ite rfl ?_
    have hg := given_ev (cs := scr2 P 0 qs) (scr2_says P qs 0 hq) (by omega) h1
    have hs : Ev (fun k => spec_Fragments.f k ((scr2 P 0 qs).map stepOf)) (sTolds ss0 ((scr2 P 0 qs).map stepOf)) := ⟨0, fun k _ => by
      unfold spec_Fragments.f
      rw [if_pos ⟨by omega, h2⟩]⟩
    refine Ev.bind hg (Ev.bind hs ?_)
    have e1 : ((runTold st0 (scr2 P 0 qs)).length : Int) = (((scr2 P 0 qs).map stepOf).length : Int) := by rw [runTold_len, List.length_map]
    have e2 : (((sTolds ss0 ((scr2 P 0 qs).map stepOf)).length : Int) != (((scr2 P 0 qs).map stepOf).length : Int)) = false := by rw [sTolds_len]; simp
    refine Ev.ite e1 ?_
    rw [e2]
    refine Ev.step (agn_cmp _ _ h3 (by rw [runTold_len]; omega) (runTold st0 (scr2 P 0 qs)).length 0 (by omega)) (fun k => ?_)
    rw [laws_FnPiecesAgainst.j5, if_neg (by decide)]
    rfl

theorem agn_loop1 (P : Msgs) (qs : List (Nat × Nat)) (hq : P.ok qs) (hl : qs.length ≤ 1000) : ∀ (q2 q1 : List (Nat × Nat)), qs = q1 ++ q2 →
    Ev (fun k => laws_FnPiecesAgainst.l1 k ((scr3 P 0 q1).map stepOf) (qs.map (tx P)) ((qs.map (tx P)).length : Int) (q1.length : Int)) true
  | [], q1, h => by
    have h1 : q1 = qs := by rw [h, List.append_nil]
    subst h1
    have hX : (scr3 P 0 q1).map stepOf ++ [(⟨false, (⟨#[]⟩ : ByteArray)⟩ : S40)] = (scr2 P 0 q1).map stepOf := by rw [← scr3_end, List.map_append]; rfl
    refine Ev.step (agn_end P q1 hq hl _ hX) (fun k => ?_)
    rw [laws_FnPiecesAgainst.l1, if_neg (by rw [List.length_map]; omega), if_pos (by rw [List.length_map, scr3_len]; omega)]
    rfl
  | p :: q2, q1, h => by
    have hlen : qs.length = q1.length + (q2.length + 1) := by rw [h]; simp
    have ih := agn_loop1 P qs hq hl q2 (q1 ++ [p]) (by rw [h]; simp)
    have hp := hq p (by rw [h]; simp)
    have hget : (qs.map (tx P))[q1.length]? = some (tx P p) := by
      rw [List.getElem?_map, h, List.getElem?_append_right (Nat.le_refl _), Nat.sub_self]
      rfl
    have hrec := rec_piece P p hp.1 q1.length (by omega)
    have e3 : (scr3 P 0 (q1 ++ [p])).map stepOf = (scr3 P 0 q1).map stepOf ++ ([(⟨true, (pushC q1.length (P.frs [p])).data⟩ : S40), (⟨false, (⟨#[]⟩ : ByteArray)⟩ : S40)] : List S40) := by
      rw [scr3_snoc, List.map_append, Nat.zero_add]
      rfl
    have el : (q1 ++ [p]).length = q1.length + 1 := by simp
    rw [e3, el] at ih
    refine Ev.step (Ev.bind (G := fun k t338 => ((some (([(⟨true, t338⟩ : S40), (⟨false, (⟨#[]⟩ : ByteArray)⟩ : S40)] : List (S40)) : List (S40))).bind fun y339 => (if ((scr3 P 0 q1).map stepOf).length + y339.length < 5864062014805 then (laws_FnPiecesAgainst.l1 k ((scr3 P 0 q1).map stepOf ++ y339) (qs.map (tx P)) ((qs.map (tx P)).length : Int) ((q1.length + 1 : Nat) : Int)) else (none)))) hrec ?_) (fun k => ?_)
    · refine Ev.ite ?_ ih
      rw [List.length_map, scr3_len]
      simp only [List.length_cons, List.length_nil]
      omega
    · rw [laws_FnPiecesAgainst.l1, if_pos (by rw [List.length_map]; omega), if_pos (by omega), if_pos (by rw [List.length_map]; omega), rdOf_at _ _ _ _ hget, w64_succ _ (by omega)]
      rfl
theorem erase_map {α β : Type} (f : α → β) : ∀ (l : List α) (i : Nat), (l.map f).eraseIdx i = (l.eraseIdx i).map f
  | [], _ => rfl
  | _ :: _, 0 => rfl
  | x :: l, i + 1 => by rw [List.map_cons, List.eraseIdx_cons_succ, List.eraseIdx_cons_succ, List.map_cons, erase_map f l i]
theorem agn_j3 (P : Msgs) (qs : List (Nat × Nat)) (hq : P.ok qs) (hl : qs.length ≤ 1000) : Ev (fun k => laws_FnPiecesAgainst.j3 k (qs.map (tx P))) true := by
  refine Ev.step (agn_loop1 P qs hq hl qs [] rfl) (fun k => ?_)
  rw [laws_FnPiecesAgainst.j3]
  rfl
theorem agn_drop (P : Msgs) (qs : List (Nat × Nat)) (hq : P.ok qs) (hl : qs.length ≤ 1000) (x3 : Int) :
    Ev (fun k => if x3 ≥ 0 then (laws_FnPiecesAgainst.j2 k x3 (qs.map (tx P)) (decide (x3 < ((qs.map (tx P)).length : Int)))) else (laws_FnPiecesAgainst.j2 k x3 (qs.map (tx P)) false)) true := by
  have hno : Ev (fun k => laws_FnPiecesAgainst.j2 k x3 (qs.map (tx P)) false) true := by
    refine Ev.step (agn_j3 P qs hq hl) (fun k => ?_)
    rw [laws_FnPiecesAgainst.j2, if_neg (by decide)]
  by_cases c0 : x3 ≥ 0
  · refine Ev.ite c0 ?_
    by_cases c1 : x3 < ((qs.map (tx P)).length : Int)
    · rw [decide_eq_true c1]
      have c2 := c1
      rw [List.length_map] at c2
      have hsub : ∀ p, p ∈ qs.eraseIdx x3.toNat → p ∈ qs := fun p hp => List.mem_of_mem_eraseIdx hp
      have hle : (qs.eraseIdx x3.toNat).length ≤ qs.length := List.length_eraseIdx_le _ _
      refine Ev.step (agn_j3 P (qs.eraseIdx x3.toNat) (fun p hp => hq p (hsub p hp)) (by omega)) (fun k => ?_)
      rw [laws_FnPiecesAgainst.j2, if_pos rfl, if_pos c0, if_pos (by omega), w64_small _ (by omega) (by omega), if_pos (by omega), if_pos (by omega), erase_map]
    · rw [decide_eq_false c1]
      exact hno
  · exact Ev.els c0 hno

theorem agn_loop0 (l : List ByteArray) (n : Nat) (by_ : List Int) (x3 : Int) (hn : n ≤ 1000) (h8 : l.length ≤ 8) (h1 : 1 ≤ n) (hs : ∀ b ∈ l, b.size < 600) (hf : ∀ b ∈ l, 8 ≤ n ∨ b.size < 100)
    (hend : Ev (fun k => (laws_shuffle.f k ((ixs (bodiesP l n h8 h1 hs hf) l.length).map (tx (bodiesP l n h8 h1 hs hf))) by_).bind fun t323 => (if x3 ≥ 0 then (laws_FnPiecesAgainst.j2 k x3 t323 (decide (x3 < (t323.length : Int)))) else (laws_FnPiecesAgainst.j2 k x3 t323 false))) true) :
    ∀ (d i : Nat), i + d = l.length → Ev (fun k => laws_FnPiecesAgainst.l0 k (n : Int) by_ x3 ((ixs (bodiesP l n h8 h1 hs hf) i).map (tx (bodiesP l n h8 h1 hs hf))) l (l.length : Int) (i : Int)) true
  | 0, i, h => by
    have hi : i = l.length := by omega
    subst hi
    refine Ev.step hend (fun k => ?_)
    rw [laws_FnPiecesAgainst.l0, if_neg (by omega)]
  | d + 1, i, h => by
    have hi : i < l.length := by omega
    have ih := agn_loop0 l n by_ x3 hn h8 h1 hs hf hend d (i + 1) (by omega)
    have hget : l[i]? = some l[i] := List.getElem?_eq_getElem hi
    have hgd : l.getD i ByteArray.empty = l[i] := by rw [List.getD_eq_getElem?_getD, hget]; rfl
    have hb := hs l[i] (List.getElem_mem hi)
    have hPN : (bodiesP l n h8 h1 hs hf).N = l.length := rfl
    have hB : (bodiesP l n h8 h1 hs hf).B i = bytesOf l[i] := by show bytesOf (l.getD i ByteArray.empty) = _; rw [hgd]
    have hn2 : (bodiesP l n h8 h1 hs hf).n i = n := rfl
    have hc : Cuts (bytesOf l[i]) n ((bodiesP l n h8 h1 hs hf).m i) := by
      have := (bodiesP l n h8 h1 hs hf).cuts i hi
      rw [hB, hn2] at this
      exact this
    have hcut := cut_ev i l[i] n ((bodiesP l n h8 h1 hs hf).m i) (by omega) (by omega) (by omega) hc
    have hil := ixs_len (bodiesP l n h8 h1 hs hf) i (by rw [hPN]; omega)
    have hfew := (bodiesP l n h8 h1 hs hf).few i hi
    have ep : (List.range ((bodiesP l n h8 h1 hs hf).m i)).map (pieceT i l[i] n) = ((List.range ((bodiesP l n h8 h1 hs hf).m i)).map fun j => (i, j)).map (tx (bodiesP l n h8 h1 hs hf)) := by
      rw [List.map_map]
      apply List.map_congr_left
      intro j _
      simp only [Function.comp, tx, pieceT, Msgs.fr, hB, hn2]
    rw [ep] at hcut
    refine Ev.step (Ev.bind (G := fun k t317 => (if ((ixs (bodiesP l n h8 h1 hs hf) i).map (tx (bodiesP l n h8 h1 hs hf))).length + t317.length < 8796093022208 then (laws_FnPiecesAgainst.l0 k (n : Int) by_ x3 (((ixs (bodiesP l n h8 h1 hs hf) i).map (tx (bodiesP l n h8 h1 hs hf))) ++ t317) l (l.length : Int) ((i + 1 : Nat) : Int)) else (none))) hcut ?_) (fun k => ?_)
    · refine Ev.ite (by simp only [List.length_map, List.length_range]; omega) ?_
      rw [← List.map_append]
      exact ih
    · rw [laws_FnPiecesAgainst.l0, if_pos (by omega), if_pos (by omega), if_pos (by omega), rdOf_at _ l i l[i] hget, w64_succ _ (by omega)]

theorem agn_true (l0 : List ByteArray) (a1 : Int) (l2 : List Int) (a3 : Int) : Ev (fun k => laws_FnPiecesAgainst.f k l0 a1 l2 a3) true := by
  have hout : Ev (fun k => laws_FnPiecesAgainst.j0 k l0 a1 l2 a3 true) true := Ev.step (G := fun _ => some true) (Ev.const _) (fun k => by rw [laws_FnPiecesAgainst.j0, if_pos rfl])
  unfold laws_FnPiecesAgainst.f
  obtain ⟨r1, hfit, hr1⟩ := fits_ev l0
  refine Ev.bind hfit ?_
  cases r1 with
  | false => exact Ev.els (by simp) hout
  | true =>
    refine Ev.ite rfl ?_
    obtain ⟨hL, hS⟩ := hr1 rfl
    by_cases c2 : (l2.length : Int) > 2147483647
    · rw [decide_eq_true c2]; exact hout
    rw [decide_eq_false c2]
    obtain ⟨r, hl, hr⟩ := light_ev l0 a1 hL hS
    cases r with
    | false =>
      refine Ev.step (Ev.bind (G := fun k t315 => (if t315 = true then (laws_FnPiecesAgainst.l0 k a1 l2 a3 ([] : List ByteArray) l0 (l0.length : Int) 0) else (some true))) hl (Ev.els (by simp) (Ev.const _))) (fun k => ?_)
      rw [laws_FnPiecesAgainst.j0, if_neg (by simp)]
    | true =>
      obtain ⟨hp0, hp8, hs, h1, h2, h8⟩ := hr rfl
      obtain ⟨n, rfl⟩ : ∃ n : Nat, a1 = (n : Int) := ⟨a1.toNat, by omega⟩
      have hsz : ∀ b ∈ l0, b.size < 600 := fun b hb => by have := size_le_sizes l0 b hb; omega
      have hsf : ∀ b ∈ l0, 8 ≤ n ∨ b.size < 100 := fun b hb => by have := size_le_sizes l0 b hb; omega
      have e8 : l0.length ≤ 8 := by omega
      have e1 : 1 ≤ n := by omega
      have hmain := agn_loop0 l0 n l2 a3 (by omega) e8 e1 hsz hsf ?_ l0.length 0 (by omega)
      · refine Ev.step (Ev.bind (G := fun k t315 => (if t315 = true then (laws_FnPiecesAgainst.l0 k (n : Int) l2 a3 ([] : List ByteArray) l0 (l0.length : Int) 0) else (some true))) hl (Ev.ite rfl hmain)) (fun k => ?_)
        rw [laws_FnPiecesAgainst.j0, if_neg (by simp)]
      obtain ⟨P, hP⟩ : ∃ P, P = bodiesP l0 n e8 e1 hsz hsf := ⟨_, rfl⟩
      have hN : P.N = l0.length := by rw [hP]; rfl
      rw [← hP]
      have hil := ixs_len P l0.length (by omega)
      have hm0 := (P.cuts 0 (by omega)).m1
      have hne : ((ixs P l0.length).map (tx P)) ≠ [] := by
        have h0 : ((0 : Nat), 0) ∈ ixs P l0.length := (ixs_mem P _ _).2 ⟨hp0, hm0⟩
        intro e
        rw [List.map_eq_nil_iff] at e
        rw [e] at h0
        cases h0
      obtain ⟨l', hperm, hsh⟩ := shuffle_ev ((ixs P l0.length).map (tx P)) l2 hne (by rw [List.length_map]; omega)
      obtain ⟨qs, hqs, rfl⟩ := perm_map (tx P) hperm _ rfl
      have hqlen : qs.length = (ixs P l0.length).length := hqs.length_eq
      have hok : P.ok qs := fun p hp => by
        have := (ixs_mem P l0.length p).1 (hqs.mem_iff.1 hp)
        exact ⟨by omega, this.2⟩
      exact Ev.bind hsh (agn_drop P qs hok (by omega) a3)

end Go.Proofs.YtblmbbllfiigmaaDoor
