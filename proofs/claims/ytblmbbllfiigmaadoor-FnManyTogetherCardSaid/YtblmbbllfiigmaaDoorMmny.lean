/-
  FnManyTogether returns true for every input, and each argument reads behind the call as it read before. Conditions: none but the row's own (the listed variables start as the program's text lays them; the card ties that to the text).
-/
import Derived.Test.YtblmbbllfiigmaaDoorMtwo
import Derived.Test.YtblmbbllfiigmaaDoorPAllx6
import Derived.Test.YtblmbbllfiigmaaDoorCards
import Derived.Test.YtblmbbllfiigmaaDoorTie
import Derived.Test.YtblmbbllfiigmaaDoorRec
import Derived.WalkKit
import Derived.ProofKit
import Derived.OpenShut
import Derived.ChangeSame
import Derived.Deep.DeepHandedRow
import Derived.ShutString
import Derived.ChangeOld
import Derived.Below
import Derived.SizedLaws
import Derived.SliceStrings
import Derived.Test.YtblmbbllfiigmaaDoorWSized
namespace Go.Proofs.YtblmbbllfiigmaaDoor
open Go.RowKit Go.Proofs.YtblmbbllfiigmaaDoorW.PrintWords Go.Proofs.YtblmbbllfiigmaaDoorW.PrintLast Go.Proofs.YtblmbbllfiigmaaDoorW.PrintMore PAll

theorem fits_loop (l : List ByteArray) (hl : l.length ≤ 2147483647) : ∀ (d i : Nat), i + d = l.length →
    ∃ r : Bool, Ev (fun k => laws_zzFits2.l0 k l (l.length : Int) (i : Int)) r ∧ (r = true → ∀ b ∈ l.drop i, b.size ≤ 2147483647)
  | 0, i, h => by
    refine ⟨true, Ev.step (G := fun _ => some true) (Ev.const _) (fun k => ?_), fun _ b hb => ?_⟩
    · rw [laws_zzFits2.l0, if_neg (by omega)]
    · rw [List.drop_of_length_le (by omega)] at hb; cases hb
  | d + 1, i, h => by
    have hi : i < l.length := by omega
    obtain ⟨r, h1, h2⟩ := fits_loop l hl d (i + 1) (by omega)
    by_cases hb : ((l[i].size : Nat) : Int) > 2147483647
    · refine ⟨false, Ev.step (G := fun _ => some false) (Ev.const _) (fun k => ?_), fun h => by cases h⟩
      rw [laws_zzFits2.l0, if_pos (by omega), if_pos (by omega), if_pos (by omega), rdOf_at _ l i l[i] (List.getElem?_eq_getElem hi), if_pos hb]
    · refine ⟨r, Ev.step h1 (fun k => ?_), fun hr b hm => ?_⟩
      · rw [laws_zzFits2.l0, if_pos (by omega), if_pos (by omega), if_pos (by omega), rdOf_at _ l i l[i] (List.getElem?_eq_getElem hi), if_neg hb, w64_succ _ (by omega)]
      · rw [List.drop_eq_getElem_cons hi] at hm
        rcases List.mem_cons.1 hm with rfl | hm
        · omega
        · exact h2 hr b hm
theorem fits_ev (l : List ByteArray) : ∃ r : Bool, Ev (fun k => laws_zzFits2.f k l) r ∧ (r = true → l.length ≤ 2147483647 ∧ ∀ b ∈ l, b.size ≤ 2147483647) := by
  by_cases hl : (l.length : Int) > 2147483647
  · exact ⟨false, Ev.ite hl (Ev.const _), fun h => by cases h⟩
  · obtain ⟨r, h1, h2⟩ := fits_loop l (by omega) l.length 0 (by omega)
    refine ⟨r, Ev.els hl h1, fun hr => ⟨by omega, fun b hb => h2 hr b (by simpa using hb)⟩⟩

theorem size_le_sizes : ∀ (l : List ByteArray) (b : ByteArray), b ∈ l → b.size ≤ sizes l
  | [], _, h => by cases h
  | x :: l, b, h => by
    have e : sizes (x :: l) = x.size + sizes l := by simp [sizes]
    rcases List.mem_cons.1 h with rfl | h
    · omega
    · have := size_le_sizes l b h; omega

/-- The bodies, cut to one length. -/
def bodiesP (l : List ByteArray) (n : Nat) (h8 : l.length ≤ 8) (h1 : 1 ≤ n) (hs : ∀ b ∈ l, b.size < 600) (hn : ∀ b ∈ l, 8 ≤ n ∨ b.size < 100) : Msgs :=
  have hb : ∀ k, k < l.length → l.getD k ByteArray.empty ∈ l := fun k hk => by
    rw [List.getD_eq_getElem?_getD, List.getElem?_eq_getElem hk]
    exact List.getElem_mem hk
  ⟨l.length, fun k => bytesOf (l.getD k ByteArray.empty), fun _ => n, fun k => cntOf (l.getD k ByteArray.empty).size n, h8,
   fun k hk => by
     have hm := hb k hk
     have := hs _ hm
     have h2 := cnt_few _ n h1 this (hn _ hm)
     exact cuts_of _ n h1 (by omega) (by omega),
   fun k hk => by
     have := hs _ (hb k hk)
     rw [bytesOf_length]; omega,
   fun k hk => cnt_few _ n h1 (hs _ (hb k hk)) (hn _ (hb k hk)),
   fun k _ => bytes_byt _⟩

/-- The numbers of all pieces of the first messages. -/
def ixs (P : Msgs) : Nat → List (Nat × Nat)
  | 0 => []
  | i + 1 => ixs P i ++ (List.range (P.m i)).map fun j => (i, j)
theorem ixs_mem (P : Msgs) : ∀ (i : Nat) (p : Nat × Nat), p ∈ ixs P i ↔ p.1 < i ∧ p.2 < P.m p.1
  | 0, p => by simp [ixs]
  | i + 1, p => by
    rw [ixs, List.mem_append, ixs_mem P i p]
    constructor
    · rintro (h | h)
      · exact ⟨by omega, h.2⟩
      · obtain ⟨j, hj, rfl⟩ := List.mem_map.1 h
        exact ⟨by simp, by simpa using hj⟩
    · rintro ⟨h1, h2⟩
      by_cases e : p.1 = i
      · right
        refine List.mem_map.2 ⟨p.2, ?_, ?_⟩
        · rw [← e]; simpa using h2
        · rw [← e]
      · exact Or.inl ⟨by omega, h2⟩
theorem ixs_len (P : Msgs) : ∀ (i : Nat), i ≤ P.N → (ixs P i).length ≤ i * 100
  | 0, _ => by simp [ixs]
  | i + 1, h => by
    have h1 := ixs_len P i (by omega)
    have h2 := P.few i (by omega)
    rw [ixs, List.length_append, List.length_map, List.length_range, Nat.succ_mul]
    omega
def encLen (P : Msgs) (qs : List (Nat × Nat)) : Nat := (qs.map fun p => (enc (P.fr p.1 p.2)).length).sum
theorem encLen_eq (P : Msgs) : ∀ (qs : List (Nat × Nat)), ((P.frs qs).flatMap enc).length = encLen P qs
  | [] => rfl
  | p :: qs => by
    have ih := encLen_eq P qs
    have e : P.frs (p :: qs) = P.fr p.1 p.2 :: P.frs qs := rfl
    rw [e, enc_all, List.length_append, ih]
    simp [encLen]
theorem chk_sum (B : List Int) (n : Nat) : ∀ (k : Nat), ((List.range k).map fun j => (chk B n j).length).sum ≤ min (k * n) B.length
  | 0 => by simp
  | k + 1 => by
    have ih := chk_sum B n k
    rw [List.range_succ, List.map_append, List.sum_append, Nat.succ_mul]
    have e := chk_len B n k
    simp only [List.map_cons, List.map_nil, List.sum_cons, List.sum_nil]
    omega
theorem encLen_part (P : Msgs) (i : Nat) : ∀ (k : Nat), encLen P ((List.range k).map fun j => (i, j)) = 12 * k + ((List.range k).map fun j => (chk (P.B i) (P.n i) j).length).sum
  | 0 => rfl
  | k + 1 => by
    have ih := encLen_part P i k
    unfold encLen at ih ⊢
    rw [List.range_succ, List.map_append, List.map_append, List.sum_append, ih, List.map_append, List.sum_append]
    simp only [List.map_cons, List.map_nil, List.sum_cons, List.sum_nil, enc_len, Msgs.fr, fragOf]
    omega
theorem encLen_ixs (P : Msgs) : ∀ (i : Nat), i ≤ P.N → encLen P (ixs P i) ≤ i * 1800
  | 0, _ => by simp [ixs, encLen]
  | i + 1, h => by
    have h1 := encLen_ixs P i (by omega)
    have h2 := P.few i (by omega)
    have h3 := P.short i (by omega)
    have h4 := chk_sum (P.B i) (P.n i) (P.m i)
    have h5 := encLen_part P i (P.m i)
    have e : encLen P (ixs P i ++ (List.range (P.m i)).map fun j => (i, j)) = encLen P (ixs P i) + encLen P ((List.range (P.m i)).map fun j => (i, j)) := by simp [encLen]
    rw [ixs, e, Nat.succ_mul]
    omega

/-- The text of a piece. -/
def tx (P : Msgs) (p : Nat × Nat) : ByteArray := strOfNums (enc (P.fr p.1 p.2))

/-- What the law does with its one record. -/
noncomputable def mnyTail (k : Nat) (x0 x8 : List ByteArray) (x11 : ByteArray) : Option Bool :=
  (laws_record.f k 0 x11).bind fun t309 => ((laws_pops.f k (([t309] : List ByteArray)) (wrap64 ((x0.length : Int) + 1))).bind fun t313 => ((impl_Fragments.f k t313).bind fun t316 => ((laws_come.f k t313 t316).bind fun bt319 => (if bt319.2 = true then ((laws_texts.f k bt319.1 x8).bind fun t323 => (some t323)) else (some false)))))
theorem mny_loop1 (P : Msgs) (x0 x8 : List ByteArray) (qs : List (Nat × Nat)) (hn : qs.length ≤ 10000) (hl : encLen P qs ≤ 60000) (hend : Ev (fun k => mnyTail k x0 x8 (strOfNums ((P.frs qs).flatMap enc))) true) :
    ∀ (q2 q1 : List (Nat × Nat)), qs = q1 ++ q2 → Ev (fun k => laws_FnManyTogether.l1 k x0 x8 (strOfNums ((P.frs q1).flatMap enc)) (qs.map (tx P)) (qs.length : Int) (q1.length : Int)) true
  | [], q1, h => by
    have h1 : q1 = qs := by rw [h, List.append_nil]
    subst h1
    refine Ev.step hend (fun k => ?_)
    rw [laws_FnManyTogether.l1, if_neg (by omega)]
    rfl
  | p :: q2, q1, h => by
    have hlen : qs.length = q1.length + (q2.length + 1) := by rw [h]; simp
    have ih := mny_loop1 P x0 x8 qs hn hl hend q2 (q1 ++ [p]) (by rw [h]; simp)
    have hget : (qs.map (tx P))[q1.length]? = some (tx P p) := by
      rw [List.getElem?_map, h, List.getElem?_append_right (Nat.le_refl _), Nat.sub_self]
      rfl
    have hsum : encLen P qs = encLen P q1 + ((enc (P.fr p.1 p.2)).length + encLen P q2) := by rw [h]; simp [encLen]
    have hcat : strOfNums ((P.frs (q1 ++ [p])).flatMap enc) = strOfNums ((P.frs q1).flatMap enc) ++ tx P p := by
      unfold tx
      rw [← str_app]
      simp [Msgs.frs]
    have el : (q1 ++ [p]).length = q1.length + 1 := by simp
    rw [hcat, el] at ih
    refine Ev.step ih (fun k => ?_)
    rw [laws_FnManyTogether.l1, if_pos (by omega), if_pos (by omega), if_pos (by rw [List.length_map]; omega), rdOf_at _ _ _ _ hget, if_pos (by
      unfold tx
      rw [strOfNums_size, strOfNums_size, encLen_eq]
      omega), w64_succ _ (by omega)]

theorem mny_loop0 (l : List ByteArray) (n : Nat) (by_ : List Int) (hn : n ≤ 1000) (h8 : l.length ≤ 8) (h1 : 1 ≤ n) (hs : ∀ b ∈ l, b.size < 600) (hf : ∀ b ∈ l, 8 ≤ n ∨ b.size < 100)
    (hend : Ev (fun k => (laws_shuffle.f k ((ixs (bodiesP l n h8 h1 hs hf) l.length).map (tx (bodiesP l n h8 h1 hs hf))) by_).bind fun t305 => (laws_FnManyTogether.l1 k l ((List.range l.length).map (bodiesP l n h8 h1 hs hf).whole) (⟨#[]⟩ : ByteArray) t305 (t305.length : Int) 0)) true) :
    ∀ (d i : Nat), i + d = l.length → Ev (fun k => laws_FnManyTogether.l0 k l (n : Int) by_ ((ixs (bodiesP l n h8 h1 hs hf) i).map (tx (bodiesP l n h8 h1 hs hf))) ((List.range i).map (bodiesP l n h8 h1 hs hf).whole) l (l.length : Int) (i : Int)) true
  | 0, i, h => by
    have hi : i = l.length := by omega
    subst hi
    refine Ev.step hend (fun k => ?_)
    rw [laws_FnManyTogether.l0, if_neg (by omega)]
  | d + 1, i, h => by
    have hi : i < l.length := by omega
    have ih := mny_loop0 l n by_ hn h8 h1 hs hf hend d (i + 1) (by omega)
    have hget : l[i]? = some l[i] := List.getElem?_eq_getElem hi
    have hgd : l.getD i ByteArray.empty = l[i] := by rw [List.getD_eq_getElem?_getD, hget]; rfl
    have hb := hs l[i] (List.getElem_mem hi)
    have hPN : (bodiesP l n h8 h1 hs hf).N = l.length := rfl
    have hB : (bodiesP l n h8 h1 hs hf).B i = bytesOf l[i] := by show bytesOf (l.getD i ByteArray.empty) = _; rw [hgd]
    have hn2 : (bodiesP l n h8 h1 hs hf).n i = n := rfl
    have hc : Cuts (bytesOf l[i]) n ((bodiesP l n h8 h1 hs hf).m i) := by
      have := (bodiesP l n h8 h1 hs hf).cuts i hi
      rw [hB, hn2] at this
      exact this
    have hcut := cut_ev i l[i] n ((bodiesP l n h8 h1 hs hf).m i) (by omega) (by omega) (by omega) hc
    have hwh := whole_ev 11 i l[i] (by omega) (by omega)
    have hil := ixs_len (bodiesP l n h8 h1 hs hf) i (by rw [hPN]; omega)
    have hfew := (bodiesP l n h8 h1 hs hf).few i hi
    have ew : strOfNums (enc ⟨11, l[i].size, i, 0, bytesOf l[i]⟩) = (bodiesP l n h8 h1 hs hf).whole i := by
      unfold Msgs.whole
      rw [hB, bytesOf_length]
    have ep : (List.range ((bodiesP l n h8 h1 hs hf).m i)).map (pieceT i l[i] n) = ((List.range ((bodiesP l n h8 h1 hs hf).m i)).map fun j => (i, j)).map (tx (bodiesP l n h8 h1 hs hf)) := by
      rw [List.map_map]
      apply List.map_congr_left
      intro j _
      simp only [Function.comp, tx, pieceT, Msgs.fr, hB, hn2]
    rw [ew] at hwh
    rw [ep] at hcut
    refine Ev.step (G := fun k => (laws_cutting.f k 11 (i : Int) l[i] (n : Int)).bind fun t295 => (if ((ixs (bodiesP l n h8 h1 hs hf) i).map (tx (bodiesP l n h8 h1 hs hf))).length + t295.length < 8796093022208 then ((laws_whole.f k 11 (i : Int) l[i]).bind fun t301 => (if ((List.range i).map (bodiesP l n h8 h1 hs hf).whole).length < 8796093022208 then (laws_FnManyTogether.l0 k l (n : Int) by_ (((ixs (bodiesP l n h8 h1 hs hf) i).map (tx (bodiesP l n h8 h1 hs hf))) ++ t295) (((List.range i).map (bodiesP l n h8 h1 hs hf).whole) ++ [t301]) l (l.length : Int) ((i + 1 : Nat) : Int)) else none)) else none)) ?_ (fun k => ?_)
    · refine Ev.bind hcut (Ev.ite (by simp only [List.length_map, List.length_range]; omega) (Ev.bind hwh (Ev.ite (by simp only [List.length_map, List.length_range]; omega) ?_)))
      rw [← List.map_append]
      rw [List.range_succ, List.map_append] at ih
      exact ih
    · rw [laws_FnManyTogether.l0, if_pos (by omega), if_pos (by omega), if_pos (by omega), rdOf_at _ l i l[i] hget, w64_succ _ (by omega)]

theorem mny_true (l0 : List ByteArray) (a1 : Int) (l2 : List Int) : Ev (fun k => laws_FnManyTogether.f k l0 a1 l2) true := by
  have hout : Ev (fun k => laws_FnManyTogether.j0 k l0 a1 l2 true) true := Ev.step (G := fun _ => some true) (Ev.const _) (fun k => by rw [laws_FnManyTogether.j0, if_pos rfl])
  unfold laws_FnManyTogether.f
  obtain ⟨r1, hfit, hr1⟩ := fits_ev l0
  refine Ev.bind hfit ?_
  cases r1 with
  | false => exact Ev.els (by simp) hout
  | true =>
    refine Ev.ite rfl ?_
    obtain ⟨hL, hS⟩ := hr1 rfl
    by_cases c2 : (l2.length : Int) > 2147483647
    · rw [decide_eq_true c2]; exact hout
    rw [decide_eq_false c2]
    obtain ⟨r, hl, hr⟩ := light_ev l0 a1 hL hS
    cases r with
    | false =>
      refine Ev.step (G := fun k => (laws_light.f k l0 a1).bind fun t => (if t = true then (laws_FnManyTogether.l0 k l0 a1 l2 ([] : List ByteArray) ([] : List ByteArray) l0 (l0.length : Int) 0) else (some true))) ?_ (fun k => by rw [laws_FnManyTogether.j0, if_neg (by simp)])
      exact Ev.bind hl (Ev.els (by simp) (Ev.const _))
    | true =>
      obtain ⟨hp0, hp8, hs, h1, h2, h8⟩ := hr rfl
      obtain ⟨n, rfl⟩ : ∃ n : Nat, a1 = (n : Int) := ⟨a1.toNat, by omega⟩
      have hsz : ∀ b ∈ l0, b.size < 600 := fun b hb => by have := size_le_sizes l0 b hb; omega
      have hsf : ∀ b ∈ l0, 8 ≤ n ∨ b.size < 100 := fun b hb => by have := size_le_sizes l0 b hb; omega
      have e8 : l0.length ≤ 8 := by omega
      have e1 : 1 ≤ n := by omega
      obtain ⟨P, hP⟩ : ∃ P, P = bodiesP l0 n e8 e1 hsz hsf := ⟨_, rfl⟩
      have hN : P.N = l0.length := by rw [hP]; rfl
      refine Ev.step (G := fun k => (laws_light.f k l0 (n : Int)).bind fun t => (if t = true then (laws_FnManyTogether.l0 k l0 (n : Int) l2 ([] : List ByteArray) ([] : List ByteArray) l0 (l0.length : Int) 0) else (some true))) ?_ (fun k => by rw [laws_FnManyTogether.j0, if_neg (by simp)])
      refine Ev.bind hl (Ev.ite rfl ?_)
      have hmain := mny_loop0 l0 n l2 (by omega) e8 e1 hsz hsf ?_ l0.length 0 (by omega)
      · exact hmain
      rw [← hP]
      have hil := ixs_len P l0.length (by omega)
      have hm0 := (P.cuts 0 (by omega)).m1
      have hne : ((ixs P l0.length).map (tx P)) ≠ [] := by
        have h0 : ((0 : Nat), 0) ∈ ixs P l0.length := (ixs_mem P _ _).2 ⟨hp0, hm0⟩
        intro e
        rw [List.map_eq_nil_iff] at e
        rw [e] at h0
        cases h0
      obtain ⟨l', hperm, hsh⟩ := shuffle_ev ((ixs P l0.length).map (tx P)) l2 hne (by rw [List.length_map]; omega)
      obtain ⟨qs, hqs, rfl⟩ := perm_map (tx P) hperm _ rfl
      have hqlen : qs.length = (ixs P l0.length).length := hqs.length_eq
      have hmem : ∀ p, p ∈ qs ↔ p.1 < P.N ∧ p.2 < P.m p.1 := fun p => by rw [hqs.mem_iff, ixs_mem, hN]
      have hok : P.ok qs := fun p hp => (hmem p).1 hp
      have hel : encLen P qs ≤ 60000 := by
        have e : encLen P qs = encLen P (ixs P l0.length) := (hqs.map _).sum_nat
        have := encLen_ixs P l0.length (by omega)
        omega
      have hqne : qs ≠ [] := by
        intro e
        rw [e] at hperm
        exact hne (by simpa using hperm.length_eq.symm)
      obtain ⟨hcmd, hkn⟩ := (kn_zero P).push 0 hok hqne (by rw [encLen_eq]; exact hel)
      have hpush : ∀ c ∈ [pushC 0 (P.frs qs)], c.push = true := fun c hc => by
        obtain rfl : c = pushC 0 (P.frs qs) := by simpa using hc
        rfl
      have hall : ∀ k, k < P.N → ∀ i, i < P.m k → comes (fun _ _ => false) qs k i = true := fun k hk i hi => by
        rw [comes, came]
        exact Or.inr ((hmem (k, i)).2 ⟨hk, hi⟩)
      have hcur : (runSt st0 [pushC 0 (P.frs qs)]).cur = 0 := puts_cur 0 (P.frs qs) st0
      obtain ⟨hrun, hcome⟩ := script_ev (P := P) hpush ⟨hcmd, trivial⟩ hkn hcur hall
      have hclen : ([pushC 0 (P.frs qs)] ++ List.replicate (P.N + 1) popC).length ≤ 1000000 := by simp; omega
      have hsays : ∀ c ∈ [pushC 0 (P.frs qs)] ++ List.replicate (P.N + 1) popC, Says c := fun c hc => by
        rcases List.mem_append.1 hc with hc | hc
        · obtain rfl : c = pushC 0 (P.frs qs) := by simpa using hc
          exact says_push 0 _ (P.frs_ok hok)
        · rw [List.eq_of_mem_replicate hc]; exact says_pop
      have hrec : Ev (fun k => laws_record.f k 0 (strOfNums ((P.frs qs).flatMap enc))) (pushC 0 (P.frs qs)).data := rec_ev 0 _ (by omega) (by rw [encLen_eq]; omega)
      have hpops : Ev (fun k => laws_pops.f k [(pushC 0 (P.frs qs)).data] (wrap64 ((l0.length : Int) + 1))) (([pushC 0 (P.frs qs)] ++ List.replicate (P.N + 1) popC).map stepOf) := by
        rw [w64_succ _ (by omega), ← hN]
        have h := pops_ev [(pushC 0 (P.frs qs)).data] (P.N + 1) (by simp) (by omega)
        exact h.eq (script_steps [pushC 0 (P.frs qs)] (P.N + 1) hpush)
      have htail : Ev (fun k => mnyTail k l0 ((List.range l0.length).map P.whole) (strOfNums ((P.frs qs).flatMap enc))) true := by
        unfold mnyTail
        refine Ev.bind hrec (Ev.bind hpops (Ev.bind (given_ev hsays hclen hrun) (Ev.bind (come_ev hclen) (Ev.ite rfl (Ev.bind (a := true) ?_ (Ev.const _))))))
        rw [hcome, hN]
        exact texts_ev _ (by simp; omega)
      have hloop := mny_loop1 P l0 ((List.range l0.length).map P.whole) qs (by omega) hel htail qs [] rfl
      refine Ev.bind hsh ?_
      rw [List.length_map]
      exact hloop

end Go.Proofs.YtblmbbllfiigmaaDoor

namespace Go.Proofs.YtblmbbllfiigmaaDoor
open Go.ChangeShapes Go.WideShapes Go.ChangeAt Go.RowKit

theorem trod_u8 {H : Type} {enc : TypeId × Value → H} {P : Program} {w : World} {base : Nat} {sp : Nat → Bool} {held : Bool} {t : TypeId} {fuel : Nat} {cs : List Value} {n : Int} {p : List MemPlace}
    (ht : P.underlying t = some (.int .u8)) (h : DataW.trod enc P w base sp held fuel t cs = some (.lit (.int .u8 n), p)) : cs = [.int .u8 n] := by
  cases fuel with
  | zero => simp [DataW.trod] at h
  | succ fuel =>
    unfold DataW.trod at h
    rw [ht] at h
    split at h <;> simp_all

theorem gV0 : Tryd.prog.globalNamed "pub-tandemry/pub/dtls/pkg/protocol.Version1_0" = some 4 := by kernel_rfl
theorem gV2 : Tryd.prog.globalNamed "pub-tandemry/pub/dtls/pkg/protocol.Version1_2" = some 5 := by kernel_rfl
theorem gV0t : (Tryd.prog.globals[4]?).map (·.type) = some 89 := by kernel_rfl
theorem gV2t : (Tryd.prog.globals[5]?).map (·.type) = some 89 := by kernel_rfl
theorem cells5 : Tryd.prog.cellsOf 5 = 1 := by kernel_rfl
theorem cells89 : Tryd.prog.cellsOf 89 = 2 := by kernel_rfl

set_option maxRecDepth 100000 in
theorem ver_cells {W : World} {fuel : Nat} {cs : Array Value} {p : List MemPlace} {a b : Int} (h : DataW.trod (fun _ => ()) Tryd.prog W 0 (fun _ => true) false fuel 89 cs.toList = some (.agg [.lit (.int .u8 a), .lit (.int .u8 b)], p)) :
    cs[0]? = some (.int .u8 a) ∧ cs[1]? = some (.int .u8 b) := by
  obtain ⟨y0, y1, n, hx, hl, h0, h1⟩ := trod_struct2 Tryd.underlying89 h
  rw [cells89] at hl
  obtain ⟨y0d, y0p⟩ := y0
  obtain ⟨y1d, y1p⟩ := y1
  simp only [Prod.mk.injEq, DataW.agg.injEq, List.cons.injEq, and_true] at hx
  obtain ⟨⟨e0, e1⟩, _⟩ := hx
  rw [← e0] at h0
  rw [← e1] at h1
  have h0 := trod_u8 Tryd.underlying5 h0
  have h1 := trod_u8 Tryd.underlying5 h1
  rw [cells5] at h0 h1
  obtain ⟨l⟩ := cs
  match l, hl with
  | [u, v], _ =>
    simp at h0 h1
    simp [h0, h1]

set_option maxRecDepth 100000 in
theorem laid_gl {W : World} (h : laidMetH Tryd.prog Rows.fnDoubledPiecesRow.laid W) : GL W := by
  have h : laidMet Tryd.prog Rows.fnDoubledPiecesRow.laid W := h
  obtain ⟨ps, hv, _, _⟩ := h
  obtain ⟨g, t, cs, fuel, p, q, hg, ht, hc, htr, hrest, _⟩ := hv
  obtain ⟨g2, t2, cs2, fuel2, p2, q2, hg2, ht2, hc2, htr2, _, _⟩ := hrest
  obtain rfl := Option.some.inj (gV0.symm.trans hg)
  obtain rfl := Option.some.inj (gV2.symm.trans hg2)
  obtain rfl := Option.some.inj (gV0t.symm.trans ht)
  obtain rfl := Option.some.inj (gV2t.symm.trans ht2)
  obtain ⟨a0, a1⟩ := ver_cells htr
  obtain ⟨b0, b1⟩ := ver_cells htr2
  exact ⟨(World.var?_cell gV0 hc 0).trans a0, (World.var?_cell gV0 hc 1).trans a1, (World.var?_cell gV2 hc2 0).trans b0, (World.var?_cell gV2 hc2 1).trans b1⟩

theorem own : ownKnob Tryd.prog.godebug = none := by kernel_rfl

abbrev smallS : ByteArray := { data := #[98, 117, 102, 102, 101, 114, 32, 105, 115, 32, 116, 111, 111, 32, 115, 109, 97, 108, 108] }
abbrev unsupS : ByteArray := { data := #[117, 110, 115, 117, 112, 112, 111, 114, 116, 101, 100, 32, 112, 114, 111, 116, 111, 99, 111, 108, 32, 118, 101, 114, 115, 105, 111, 110] }
abbrev overS : ByteArray := { data := #[102, 114, 97, 103, 109, 101, 110, 116, 32, 98, 117, 102, 102, 101, 114, 32, 111, 118, 101, 114, 102, 108, 111, 119] }
noncomputable abbrev low : Nat := (World.holding Tryd.prog default ⟨#[], #[], []⟩).heap.size
/-- The witness: the settled world with five errors more, the seven variables holding what their initialisers lay. -/
noncomputable def laidWorld (os : Os) : World :=
  let w0 := World.holding Tryd.prog os ⟨#[.cells #[.string overS] 146, .cells #[.string smallS] 146, .cells #[.string smallS] 146, .cells #[.string unsupS] 146, .cells #[.string smallS] 146], #[], []⟩
  let put (h : Array Obj) (g : Nat) (cs : Array Value) : Array Obj := h.modify g fun
    | .cells _ t frozen => .cells cs t frozen
    | o => o
  let h1 := put w0.heap 0 #[.iface 130 (.pointer (some ⟨low, 0, none⟩))]
  let h2 := put h1 1 #[.iface 130 (.pointer (some ⟨low + 1, 0, none⟩))]
  let h3 := put h2 2 #[.iface 130 (.pointer (some ⟨low + 2, 0, none⟩))]
  let h4 := put h3 6 #[.iface 130 (.pointer (some ⟨low + 3, 0, none⟩))]
  let h5 := put h4 7 #[.iface 130 (.pointer (some ⟨low + 4, 0, none⟩))]
  let h6 := put h5 4 #[.int .u8 254, .int .u8 255]
  let h7 := put h6 5 #[.int .u8 254, .int .u8 253]
  { w0 with heap := h7 }
set_option maxRecDepth 1000000 in
theorem laid_met (os : Os) (args : Array Value) : laidMet Tryd.prog Rows.fnDoubledPiecesRow.laid ((laidWorld os).forCall (fun _ _ => 0) ⟨#[], args, []⟩).memory :=
  laidMet_of_run' 8 (by kernel_rfl) (by kernel_rfl)

end Go.Proofs.YtblmbbllfiigmaaDoor

namespace Go.Proofs.YtblmbbllfiigmaaDoor.fnManyTogether
open Go.ChangeShapes Go.WideShapes Go.ChangeAt Go.RowKit Go.Proofs.YtblmbbllfiigmaaDoorW
open Go.ChangeMaps (open_string shut_string)

theorem laidOut : laidOutB Tryd.prog = true := by kernel_rfl
def IsRow (k : IntKind) (w : World) (a : Option Addr) (len cap : Nat) (zs : List Int) : Prop :=
  (a = none ∧ len = 0 ∧ cap = 0 ∧ zs = []) ∨
  ∃ x, a = some x ∧ len ≤ cap ∧ cap ≤ maxLen ∧ zs.length = cap ∧ (∀ i, i < zs.length → w.cell? (x.add i) = some (.int k (zs.getD i 0))) ∧ ∀ n ∈ zs, (Lit.int k n).wf = true

set_option maxRecDepth 100000 in
theorem opened_strings {H : Type} {enc : TypeId × Value → H} {W : World} {t e : TypeId} {r : Reach} {base : Nat} {v : Value} {d : DataW H} {p : List MemPlace} (ht : Tryd.prog.underlying t = some (.slice e)) (he : Tryd.prog.underlying e = some .string) (hc : Tryd.prog.cellsOf e = 1)
    (hv : Value.okWide Tryd.prog W r base t v) (h : ∃ fuel, DataW.trod enc Tryd.prog W 0 (fun _ => true) true fuel t v.cells.toList = some (d, p)) :
    ∃ A c l, v = .slice A l.length c ∧ l.length ≤ c ∧ l.length ≤ 9223372036854775807 ∧ PrintWords.Kd.C PrintWords.Kd.string W A l.length l := by
  obtain ⟨a0, len, cap, rfl⟩ := okWide_slice ht hv
  obtain ⟨fuel, hf⟩ := h
  rcases open_strings ht he hc hf with ⟨hcs, _⟩ | ⟨x, l, c, ss, hcs, _, hl, hm, hz, _, hcell, _⟩
  · simp [Value.cells] at hcs
    obtain ⟨rfl, rfl, rfl⟩ := hcs
    exact ⟨none, 0, [], rfl, Nat.le_refl _, by rw [List.length_nil]; omega, PrintWords.Kd.C_nil _ _⟩
  · simp [Value.cells] at hcs
    obtain ⟨rfl, rfl, rfl⟩ := hcs
    simp only [if_true] at hz
    unfold maxLen at hm
    have hlen : (ss.take len).length = len := by rw [List.length_take]; omega
    refine ⟨some x, cap, ss.take len, by rw [hlen], by omega, by omega, ?_⟩
    refine PrintWords.Kd.C_of_reads (d := ByteArray.empty) ⟨rfl, by omega, fun _ => ⟨x, rfl, fun j hj => ?_⟩⟩
    rw [hcell j (by omega)]
    rw [List.getD_eq_getElem?_getD, List.getD_eq_getElem?_getD, List.getElem?_take, if_pos (by omega)]

theorem walk (A0 : Option Addr) (c0 : Nat) (l0 : List ByteArray) (a1 : Int) (a2 : Option Addr) (len2 cap2 : Nat) (z2 : List Int) (w : World) (hr0 : PrintWords.Kd.C PrintWords.Kd.string w A0 l0.length l0) (hc0 : l0.length ≤ c0) (w2 : IsRow .i64 w a2 len2 cap2 z2) (hgl : GL w) :
    Calls Tryd.prog 4 #[.slice A0 l0.length c0, .int .i64 a1, .slice a2 len2 cap2] w fun e w' => e = .returned (.bool true) ∧ Below w.heap.size w w' := by
  obtain ⟨l2, rfl, hr2, _, _, hc2⟩ := PrintWords.ReadsInt.ofRowC w2
  obtain ⟨k, h⟩ := (mny_true l0 a1 l2).get
  exact PAll.laws_FnManyTogether.calls k A0 c0 l0 a1 _ _ l2 true w hr0 hc0 (PrintWords.Kd.C_of_reads (d := (0 : Int)) (h1 := fun _ => rfl) hr2) hc2 h hgl

theorem reads (os : Os) {H : Type} (enc : TypeId × Value → H) : ∃ places, DataW.whole enc Tryd.prog ((laidWorld os).forCall (fun _ _ => 0) ⟨#[], #[.slice none 0 0, .int .i64 0, .slice none 0 0], []⟩).memory Tryd.f4.params.toList Rows.fnManyTogetherSpec.vars false #[Value.slice none 0 0, .int .i64 0, .slice none 0 0].toList 8 = some ([.nil, .lit (.int .i64 0), .nil], [], places) :=
  ⟨[], by kernel_rfl⟩

set_option maxRecDepth 1000000 in
theorem lifted (os : Os) (started : os.Started) (H : Type) (enc : TypeId × Value → H) (F : Stop.Interp) :
    ReturnsInHanded {} Tryd.checked os 4 .any ((OpenSpec.ofChange Rows.fnManyTogetherSpec).preRow enc Tryd.prog Tryd.f4 Rows.fnManyTogetherRow.domain false Rows.fnManyTogetherRow.laid) (((OpenSpec.ofChange Rows.fnManyTogetherSpec).at F).post enc Tryd.prog Tryd.f4 false true false false) := by
  obtain ⟨places, hx⟩ := reads os enc
  refine returnsInHanded_of_row (C := Tryd.checked) (s := OpenSpec.ofChange Rows.fnManyTogetherSpec) own started (by kernel_rfl) Tryd.func4
    (witness_row_at (enc := enc) (C := Tryd.checked) false (laidWorld os) #[.slice none 0 0, .int .i64 0, .slice none 0 0] rfl (by kernel_rfl) (by kernel_rfl) (by kernel_rfl)
      (OpenSpec.preRow_of_cond 8 hx (by kernel_rfl) (fun k hk => by cases hk) (by kernel_rfl) (laid_met os _))) ?_
  intro W base args ds gs before hval0 hW _ _ _ hL _ _
  have hgl := laid_gl hL
  clear hL
  have hval : ∀ (j : Nat) t v, Tryd.f4.params[j]? = some t → args[j]? = some v → Value.okWide Tryd.prog W .any base t v := hval0
  have hW' := hW
  obtain ⟨p, q, hA0, hV, rfl, hfz, hnd⟩ := hW
  have hA : DataW.TrodAll enc Tryd.prog W 0 (fun _ => true) true Tryd.f4.params.toList args.toList ds p := hA0
  rw [Tryd.params4] at hA hval
  obtain ⟨v0, vs0, d0, ds0, p0, q0, hargs, rfl, rfl, h0, r0⟩ := trodAll_cons hA
  obtain ⟨v1, vs1, d1, ds1, p1, q1, rfl, rfl, rfl, h1, r1⟩ := trodAll_cons r0
  obtain ⟨v2, vs2, d2, ds2, p2, q2, rfl, rfl, rfl, h2, r2⟩ := trodAll_cons r1
  obtain ⟨rfl, rfl, rfl⟩ := trodAll_nil r2
  obtain rfl : args = #[v0, v1, v2] := by cases args; simp_all
  obtain ⟨rfl, rfl⟩ := trodVars_none hV
  have lt0 : ∀ x ∈ p0, x.block < W.heap.size := by obtain ⟨m, hm⟩ := h0; exact DataW.trod_lt m _ _ _ hm
  obtain ⟨A0, c0, l0, e0, hc0, hm0, hr0⟩ := opened_strings Tryd.underlying24 Tryd.underlying9 (by kernel_rfl) (hval 0 24 v0 rfl rfl) h0
  obtain ⟨a1, rfl, rfl, rfl, w1⟩ := open_int Tryd.underlying3 (hval 1 3 v1 rfl rfl) h1
  obtain ⟨a2, len2, cap2, rfl⟩ := okWide_slice Tryd.underlying22 (hval 2 22 v2 rfl rfl)
  have k2 := h2
  have lt2 : ∀ x ∈ p2, x.block < W.heap.size := by obtain ⟨m, hm⟩ := k2; exact DataW.trod_lt m _ _ _ hm
  obtain ⟨z2, w2⟩ : ∃ zs, IsRow .i64 W a2 len2 cap2 zs := by
    obtain ⟨fuel, hf⟩ := h2
    rcases open_ints Tryd.underlying22 Tryd.underlying3 (by kernel_rfl) hf with ⟨hcs, _⟩ | ⟨x, l, c, zs, hcs, _, hl, hm, hz, _, hcell, hwz⟩
    · simp [Value.cells] at hcs
      obtain ⟨rfl, rfl, rfl⟩ := hcs
      exact ⟨[], .inl ⟨rfl, rfl, rfl, rfl⟩⟩
    · simp [Value.cells] at hcs
      obtain ⟨rfl, rfl, rfl⟩ := hcs
      exact ⟨zs, .inr ⟨_, rfl, hl, hm, by simpa using hz, hcell, hwz⟩⟩
  clear hA0 hval0 hm0
  subst e0
  refine (walk A0 c0 l0 a1 a2 len2 cap2 z2 W hr0 hc0 w2 hgl).mono fun e W' ⟨he, bel⟩ => ?_
  subst he
  exact ⟨_, rfl, _, _, _, [], _, [], hW', trodAll_mk1 (shut_bool Tryd.underlying4 _), (trodAll_cons_mk (Below.trod laidOut (by kernel_rfl) (of_decide_eq_true (by kernel_rfl)) h0 bel lt0) (trodAll_cons_mk (shut_int Tryd.underlying3 w1) (trodAll_cons_mk (Below.trod laidOut (by kernel_rfl) (of_decide_eq_true (by kernel_rfl)) k2 bel lt2) trodAll_mk0))), rfl, bel.frame _, fun h => by cases h⟩

theorem said : Rows.FnManyTogetherSaid :=
  OpenClaim.holds_of_cond 4 Tryd.f4 rfl rfl rfl rfl rfl rfl rfl ⟨rfl, rfl, rfl, rfl, rfl⟩ rfl rfl rfl rfl rfl (by kernel_rfl) Tryd.func4 (by kernel_rfl)
    (of_decide_eq_true (by kernel_rfl)) (by unfold Func.isWrapper; first | (rw [if_pos (by decide +kernel)]; kernel_rfl) | (rw [if_neg (by decide +kernel)]; exact ⟨rfl, rfl⟩))
    (fun os started H enc _ F => by rw [OpenClaim.pre_eq_preRow]; exact lifted os started H enc F)

theorem plain (f : FuncId) (fn : Func) (hf : Tryd.pinned.checked.prog.funcNamed "pub-tandemry/laws.FnManyTogether" = some f) (hfn : Tryd.pinned.checked.prog.funcs[f]? = some fn) :
    false = Tryd.pinned.checked.prog.looks [] ∧ ∀ (j : Nat) t, fn.params[j]? = some t → Tryd.pinned.checked.prog.wantsStandIn t = false := by
  obtain rfl : f = 4 := Option.some.inj ((show Tryd.prog.funcNamed "pub-tandemry/laws.FnManyTogether" = some 4 by kernel_rfl).symm.trans hf) |>.symm
  obtain rfl : fn = Tryd.f4 := (Option.some.inj (Tryd.func4.symm.trans hfn)).symm
  refine ⟨by kernel_rfl, fun j t ht => ?_⟩
  rw [Tryd.params4] at ht
  have h : t = 24 ∨ t = 3 ∨ t = 22 := by simpa using Array.mem_of_getElem? ht
  rcases h with rfl | rfl | rfl
  · exact (show Tryd.prog.wantsStandIn 24 = false by kernel_rfl)
  · exact (show Tryd.prog.wantsStandIn 3 = false by kernel_rfl)
  · exact (show Tryd.prog.wantsStandIn 22 = false by kernel_rfl)

theorem card : Rows.FnManyTogetherCardSaid :=
  Claim7.holds_tied_plain_at .later [] _ _ _ _ said (fun _ h => by cases h) (by kernel_rfl) (fun _ h => by cases h) fnManyTogether_row_tie rfl ⟨rfl, rfl⟩ (by kernel_rfl) rfl plain (by kernel_rfl)
end Go.Proofs.YtblmbbllfiigmaaDoor.fnManyTogether
namespace Go.Proofs.YtblmbbllfiigmaaDoor
/-- The card, under a short name, for the claim. -/
theorem fnManyTogether_holds : Rows.FnManyTogetherCardSaid := fnManyTogether.card
#print axioms fnManyTogether_holds
end Go.Proofs.YtblmbbllfiigmaaDoor
