/-
  Messages in pieces; what scripts of pushes and pops tell; what the law's own functions answer.
-/
import Derived.Test.YtblmbbllfiigmaaDoorPop
import Derived.Test.YtblmbbllfiigmaaDoorPAllx3
import Derived.Test.YtblmbbllfiigmaaDoorMone
namespace Go.Proofs.YtblmbbllfiigmaaDoor

def chk (B : List Int) (n i : Nat) : List Int := (B.drop (i * n)).take n
def pc (B : List Int) (n i : Nat) : Int × List Int := (((i * n : Nat) : Int), chk B n i)
def fragOf (q : Nat) (B : List Int) (n i : Nat) : Frag := ⟨11, B.length, q, i * n, chk B n i⟩

/-- So many pieces of that length make up the message. -/
structure Cuts (B : List Int) (n m : Nat) : Prop where
  n1 : 1 ≤ n
  m1 : 1 ≤ m
  big : B.length ≤ 100000
  few : m ≤ 1000
  inn : ∀ i, i < m → i * n < B.length ∨ i = 0
  all : B.length ≤ m * n

theorem mul_step (n : Nat) {i j : Nat} (h : i < j) : i * n + n ≤ j * n := by
  have := Nat.mul_le_mul_right n (Nat.succ_le_of_lt h)
  rwa [Nat.succ_mul] at this
theorem chk_len (B : List Int) (n i : Nat) : (chk B n i).length = min n (B.length - i * n) := by simp [chk]

def upd (r : Nat → Bool) (i : Nat) : Nat → Bool := fun j => r j || j == i
theorem upd_self (r : Nat → Bool) (i : Nat) : upd r i i = true := by simp [upd]
theorem upd_ne (r : Nat → Bool) {i j : Nat} (h : j ≠ i) : upd r i j = r j := by simp [upd, h]
theorem upd_same {r : Nat → Bool} {i : Nat} (h : r i = true) : upd r i = r := by
  funext j
  by_cases e : j = i
  · rw [e, upd_self, h]
  · rw [upd_ne r e]

/-- The pairs of the pieces that came, of those from a place on. -/
def prs (B : List Int) (n : Nat) (r : Nat → Bool) (a k : Nat) : List (Int × List Int) := ((List.range' a k).filter r).map (pc B n)
theorem prs_zero (B : List Int) (n : Nat) (r : Nat → Bool) (a : Nat) : prs B n r a 0 = [] := rfl
theorem prs_yes (B : List Int) (n : Nat) {r : Nat → Bool} {a : Nat} (k : Nat) (h : r a = true) : prs B n r a (k + 1) = pc B n a :: prs B n r (a + 1) k := by
  unfold prs
  rw [List.range'_succ, List.filter_cons_of_pos h, List.map_cons]
theorem prs_no (B : List Int) (n : Nat) {r : Nat → Bool} {a : Nat} (k : Nat) (h : r a = false) : prs B n r a (k + 1) = prs B n r (a + 1) k := by
  unfold prs
  rw [List.range'_succ, List.filter_cons_of_neg (by simp [h])]
theorem prs_mem {B : List Int} {n : Nat} {r : Nat → Bool} {a k : Nat} {p : Int × List Int} (h : p ∈ prs B n r a k) : ∃ j, a ≤ j ∧ j < a + k ∧ r j = true ∧ p = pc B n j := by
  unfold prs at h
  obtain ⟨j, hj, rfl⟩ := List.mem_map.1 h
  obtain ⟨h1, h2⟩ := List.mem_filter.1 hj
  have h3 := List.mem_range'_1.1 h1
  exact ⟨j, h3.1, h3.2, h2, rfl⟩
theorem prs_app (B : List Int) (n : Nat) (r : Nat → Bool) (a k1 k2 : Nat) : prs B n r a (k1 + k2) = prs B n r a k1 ++ prs B n r (a + k1) k2 := by
  unfold prs
  rw [← List.range'_append_1, List.filter_append, List.map_append]
theorem prs_congr (B : List Int) (n : Nat) {r r' : Nat → Bool} (a k : Nat) (h : ∀ j, a ≤ j → j < a + k → r j = r' j) : prs B n r a k = prs B n r' a k := by
  unfold prs
  rw [List.filter_congr (fun j hj => h j (List.mem_range'_1.1 hj).1 (List.mem_range'_1.1 hj).2)]
theorem prs_len (B : List Int) (n : Nat) (r : Nat → Bool) (a k : Nat) : (prs B n r a k).length ≤ k := by
  unfold prs
  rw [List.length_map]
  exact Nat.le_trans (List.length_filter_le _ _) (by simp)
theorem prs_at (B : List Int) (n : Nat) (r : Nat → Bool) {i m : Nat} (hi : i < m) :
    prs B n r 0 m = prs B n r 0 i ++ ((if r i then [pc B n i] else []) ++ prs B n r (i + 1) (m - i - 1)) := by
  have e : m = i + ((m - i - 1) + 1) := by omega
  conv => lhs; rw [e]
  rw [prs_app, Nat.zero_add]
  cases h : r i with
  | true => rw [prs_yes B n _ h]; rfl
  | false => rw [prs_no B n _ h]; rfl

theorem idx_split (a b : List (Int × List Int)) (off : Int) (ha : ∀ p ∈ a, p.1 < off) (hb : ∀ p ∈ b, off ≤ p.1) : idxOf (a ++ b) off = a.length := by
  unfold idxOf
  rw [List.length_append, List.range_add, List.countP_append, List.countP_map]
  have h1 : List.countP (fun i => !decide (off ≤ offAt (a ++ b) i)) (List.range a.length) = a.length := by
    conv => rhs; rw [← List.length_range (n := a.length)]
    rw [List.countP_eq_length]
    intro i hi
    have hi := List.mem_range.1 hi
    have h := ha a[i] (List.getElem_mem hi)
    rw [offAt, List.getD_eq_getElem?_getD, List.getElem?_append_left hi, List.getElem?_eq_getElem hi]
    simp only [Option.getD_some, Bool.not_eq_true', decide_eq_false_iff_not]
    omega
  have h2 : List.countP ((fun i => !decide (off ≤ offAt (a ++ b) i)) ∘ fun x => a.length + x) (List.range b.length) = 0 := by
    rw [List.countP_eq_zero]
    intro i hi
    have hi := List.mem_range.1 hi
    have h := hb b[i] (List.getElem_mem hi)
    simp only [Function.comp, offAt, List.getD_eq_getElem?_getD]
    rw [List.getElem?_append_right (Nat.le_add_right _ _), Nat.add_sub_cancel_left, List.getElem?_eq_getElem hi]
    simp only [Option.getD_some, Bool.not_eq_true', decide_eq_false_iff_not]
    omega
  rw [h1, h2, Nat.add_zero]

/-- How far the pieces are there without a gap, from one on. -/
def run (r : Nat → Bool) (a : Nat) : Nat → Nat
  | 0 => a
  | k + 1 => if r a then run r (a + 1) k else a
theorem run_le (r : Nat → Bool) : ∀ (k a : Nat), a ≤ run r a k ∧ run r a k ≤ a + k
  | 0, a => ⟨Nat.le_refl _, Nat.le_refl _⟩
  | k + 1, a => by
    rw [run]
    split
    · have := run_le r k (a + 1); omega
    · omega
theorem run_all (r : Nat → Bool) : ∀ (k a j : Nat), a ≤ j → j < run r a k → r j = true
  | 0, a, j, h1, h2 => by rw [run] at h2; omega
  | k + 1, a, j, h1, h2 => by
    rw [run] at h2
    split at h2
    · rename_i h
      by_cases e : j = a
      · rw [e]; exact h
      · exact run_all r k (a + 1) j (by omega) h2
    · omega
theorem run_stop (r : Nat → Bool) : ∀ (k a : Nat), run r a k < a + k → r (run r a k) = false
  | 0, a, h => by rw [run] at h; omega
  | k + 1, a, h => by
    rw [run] at h ⊢
    split
    · rename_i h1
      rw [if_pos h1] at h
      exact run_stop r k (a + 1) (by omega)
    · rename_i h1
      simpa using h1
theorem run_upd_ne (r : Nat → Bool) (i : Nat) : ∀ (k a : Nat), i ≠ run r a k → run (upd r i) a k = run r a k
  | 0, _, _ => rfl
  | k + 1, a, h => by
    rw [run] at h
    rw [run, run]
    by_cases h1 : r a = true
    · have h2 : upd r i a = true := by simp [upd, h1]
      rw [if_pos h1] at h
      rw [if_pos h1, if_pos h2, run_upd_ne r i k (a + 1) h]
    · rw [if_neg h1] at h
      have h2 : ¬ upd r i a = true := by rw [upd_ne r (fun e => h e.symm)]; exact h1
      rw [if_neg h1, if_neg h2]
theorem run_skip (r : Nat → Bool) : ∀ (k1 k2 a : Nat), (∀ j, a ≤ j → j < a + k1 → r j = true) → run r a (k1 + k2) = run r (a + k1) k2
  | 0, k2, a, _ => by rw [Nat.zero_add, Nat.add_zero]
  | k1 + 1, k2, a, h => by
    have e : k1 + 1 + k2 = (k1 + k2) + 1 := by omega
    rw [e, run, if_pos (h a (Nat.le_refl _) (by omega)), run_skip r k1 k2 (a + 1) (fun j h1 h2 => h j (by omega) (by omega))]
    congr 1; omega

theorem advC_stuck (cov : Int) (l : List (Int × List Int)) (h : ∀ p ∈ l, cov < p.1) : advC cov l = cov := by
  cases l with
  | nil => rfl
  | cons p l =>
    have := h p (by simp)
    rw [advC, if_neg (by omega)]
theorem prs_above {B : List Int} {n : Nat} {r : Nat → Bool} {a k c : Nat} (hn : 1 ≤ n) (hc : c < a) : ∀ p ∈ prs B n r a k, ((min (c * n) B.length : Nat) : Int) < p.1 := by
  intro p hp
  obtain ⟨j, h1, h2, h3, rfl⟩ := prs_mem hp
  have := mul_step n (show c < j by omega)
  simp only [pc]
  omega
theorem adv_run {B : List Int} {n m : Nat} (hc : Cuts B n m) (r : Nat → Bool) : ∀ (k a : Nat), a + k ≤ m → advC ((min (a * n) B.length : Nat) : Int) (prs B n r a k) = ((min (run r a k * n) B.length : Nat) : Int)
  | 0, a, _ => rfl
  | k + 1, a, h => by
    rw [run]
    by_cases h1 : r a = true
    · have hi := hc.inn a (by omega)
      have hn := hc.n1
      have h0 : a * n ≤ B.length := by rcases hi with hi | rfl <;> omega
      rw [if_pos h1, prs_yes B n k h1, advC, if_pos (by simp only [pc]; omega)]
      have e : max ((min (a * n) B.length : Nat) : Int) ((pc B n a).1 + (((pc B n a).2.length : Nat) : Int)) = ((min ((a + 1) * n) B.length : Nat) : Int) := by
        simp only [pc, chk_len, Nat.succ_mul]
        omega
      rw [e]
      exact adv_run hc r k (a + 1) (by omega)
    · rw [if_neg h1, prs_no B n k (by simpa using h1), advC_stuck]
      exact prs_above hc.n1 (Nat.lt_succ_self a)

/-- What is known of a message when some of its pieces came. -/
def fr0 (q : Nat) (B : List Int) (n m : Nat) (r : Nat → Bool) : Fr :=
  ⟨prs B n r 0 m, ((min (run r 0 m * n) B.length : Nat) : Int), 11, B.length, if r 0 then 11 else 0, if r 0 then (B.length : Int) else 0, if r 0 then (q : Int) else 0, 0, if r 0 then (min n B.length : Nat) else 0, 0, r 0⟩

theorem run_none (a : Nat) : ∀ k, run (fun _ => false) a k = a
  | 0 => rfl
  | k + 1 => by simp [run]
theorem prs_none (B : List Int) (n a k : Nat) : prs B n (fun _ => false) a k = [] := by simp [prs]
theorem fr0_none (q : Nat) (B : List Int) (n m i : Nat) : frNew (fragOf q B n i) = fr0 q B n m (fun _ => false) := by
  simp [frNew, fragOf, fr0, run_none, prs_none]

theorem prs_lo {B : List Int} {n : Nat} {r : Nat → Bool} {i : Nat} (hn : 1 ≤ n) : ∀ p ∈ prs B n r 0 i, p.1 < ((i * n : Nat) : Int) := by
  intro p hp
  obtain ⟨j, h1, h2, h3, rfl⟩ := prs_mem hp
  have := mul_step n (show j < i by omega)
  simp only [pc]
  omega
theorem prs_hi {B : List Int} {n : Nat} {r : Nat → Bool} {i k : Nat} (hn : 1 ≤ n) : ∀ p ∈ prs B n r (i + 1) k, ((i * n : Nat) : Int) < p.1 := by
  intro p hp
  obtain ⟨j, h1, h2, h3, rfl⟩ := prs_mem hp
  have := mul_step n (show i < j by omega)
  simp only [pc]
  omega
theorem idx_at {B : List Int} {n m : Nat} (hc : Cuts B n m) (r : Nat → Bool) {i : Nat} (hi : i < m) : idxOf (prs B n r 0 m) ((i * n : Nat) : Int) = (prs B n r 0 i).length := by
  rw [prs_at B n r hi]
  refine idx_split _ _ _ (prs_lo hc.n1) ?_
  intro p hp
  rcases List.mem_append.1 hp with h | h
  · cases hr : r i with
    | false => rw [hr] at h; cases h
    | true =>
      rw [hr] at h
      obtain rfl : p = pc B n i := by simpa using h
      exact Int.le_refl _
  · exact Int.le_of_lt (prs_hi hc.n1 p h)

theorem there_yes {B : List Int} {n m : Nat} (hc : Cuts B n m) (q : Nat) (r : Nat → Bool) {i : Nat} (hi : i < m) (h : r i = true) : there (fr0 q B n m r) (fragOf q B n i) = true := by
  have hidx := idx_at hc r hi
  simp only [there, fr0, fragOf, coversB, hidx]
  rw [Bool.or_eq_true]
  right
  have hat : (prs B n r 0 m)[(prs B n r 0 i).length]? = some (pc B n i) := by
    rw [prs_at B n r hi, if_pos h, List.getElem?_append_right (Nat.le_refl _), Nat.sub_self]
    rfl
  obtain ⟨h1, h2⟩ := getD_at hat
  have h3 := (List.getElem?_eq_some_iff.1 hat).1
  simp [h1, h2, h3, pc]

theorem there_no {B : List Int} {n m : Nat} (hc : Cuts B n m) (q : Nat) (r : Nat → Bool) {i : Nat} (hi : i < m) (h : r i = false) : there (fr0 q B n m r) (fragOf q B n i) = false := by
  have hidx := idx_at hc r hi
  have hn := hc.n1
  simp only [there, fr0, fragOf, coversB, hidx]
  rw [Bool.or_eq_false_iff]
  have e := prs_at B n r hi
  rw [h] at e
  simp only [Bool.false_eq_true, if_false, List.nil_append] at e
  constructor
  · rw [Bool.and_eq_false_iff]
    by_cases h0 : 0 < (prs B n r 0 i).length
    · right
      obtain ⟨p, hp⟩ : ∃ p, (prs B n r 0 i)[(prs B n r 0 i).length - 1]? = some p := ⟨_, List.getElem?_eq_getElem (by omega)⟩
      have hp2 : (prs B n r 0 m)[(prs B n r 0 i).length - 1]? = some p := by rw [e, List.getElem?_append_left (by omega)]; exact hp
      obtain ⟨_, h2⟩ := getD_at hp2
      obtain ⟨j, _, h4, _, rfl⟩ := prs_mem (List.mem_of_getElem? hp)
      have h5 := mul_step n (show j < i by omega)
      have h6 := hc.inn i hi
      rw [h2, decide_eq_false_iff_not]
      simp only [pc, chk_len]
      rcases h6 with h6 | h6 <;> omega
    · left
      simpa using h0
  · by_cases h0 : (prs B n r 0 i).length < (prs B n r 0 m).length
    · obtain ⟨p, hp⟩ : ∃ p, (prs B n r 0 m)[(prs B n r 0 i).length]? = some p := ⟨_, List.getElem?_eq_getElem h0⟩
      obtain ⟨h1, _⟩ := getD_at hp
      rw [e, List.getElem?_append_right (Nat.le_refl _), Nat.sub_self] at hp
      have h2 := prs_hi hn p (List.mem_of_getElem? hp)
      have h3 : (offAt (prs B n r 0 m) (prs B n r 0 i).length == ((i * n : Nat) : Int)) = false := by rw [h1]; simp; omega
      rw [h3]; simp
    · simp [h0]

theorem ins_no {B : List Int} {n m : Nat} (hc : Cuts B n m) (r : Nat → Bool) {i : Nat} (hi : i < m) (h : r i = false) :
    insP (prs B n r 0 m) (idxOf (prs B n r 0 m) ((i * n : Nat) : Int)) (pc B n i) = prs B n (upd r i) 0 m ∧
    (insP (prs B n r 0 m) (idxOf (prs B n r 0 m) ((i * n : Nat) : Int)) (pc B n i)).drop (idxOf (prs B n r 0 m) ((i * n : Nat) : Int)) = prs B n (upd r i) i (m - i) := by
  rw [idx_at hc r hi]
  have e := prs_at B n r hi
  rw [h] at e
  simp only [Bool.false_eq_true, if_false, List.nil_append] at e
  have e1 : prs B n (upd r i) 0 i = prs B n r 0 i := prs_congr B n 0 i (fun j _ h2 => upd_ne r (by omega))
  have e2 : prs B n (upd r i) (i + 1) (m - i - 1) = prs B n r (i + 1) (m - i - 1) := prs_congr B n _ _ (fun j h1 _ => upd_ne r (by omega))
  have e3 : prs B n (upd r i) i (m - i) = pc B n i :: prs B n r (i + 1) (m - i - 1) := by
    have e4 : m - i = (m - i - 1) + 1 := by omega
    conv => lhs; rw [e4]
    rw [prs_yes B n _ (upd_self r i), e2]
  have e5 : insP (prs B n r 0 m) (prs B n r 0 i).length (pc B n i) = prs B n r 0 i ++ pc B n i :: prs B n r (i + 1) (m - i - 1) := by
    rw [insP, e, List.take_left, List.drop_left]
    simp
  rw [e5, List.drop_left, e3]
  refine ⟨?_, rfl⟩
  rw [prs_at B n (upd r i) hi, e1, e2, upd_self]
  rfl

theorem cov_no {B : List Int} {n m : Nat} (hc : Cuts B n m) (r : Nat → Bool) {i : Nat} (hi : i < m) (h : r i = false) :
    advC ((min (run r 0 m * n) B.length : Nat) : Int) (prs B n (upd r i) i (m - i)) = ((min (run (upd r i) 0 m * n) B.length : Nat) : Int) := by
  have hle := run_le r m 0
  by_cases e : i = run r 0 m
  · have h1 : run (upd r i) 0 m = run (upd r i) i (m - i) := by
      have e1 : m = i + (m - i) := by omega
      conv => lhs; rw [e1]
      rw [run_skip (upd r i) i (m - i) 0 (fun j _ h2 => by
        have := run_all r m 0 j (Nat.zero_le _) (by omega)
        simp [upd, this]), Nat.zero_add]
    rw [← e, h1]
    exact adv_run hc (upd r i) (m - i) i (by omega)
  · rw [run_upd_ne r i m 0 e]
    have hlt : run r 0 m < i := by
      by_cases h2 : i < run r 0 m
      · have := run_all r m 0 i (Nat.zero_le _) h2
        rw [h] at this; cases this
      · omega
    exact advC_stuck _ _ (prs_above hc.n1 hlt)

theorem fr_put {B : List Int} {n m : Nat} (hc : Cuts B n m) (q : Nat) (r : Nat → Bool) {i : Nat} (hi : i < m) : frPut 0 (fr0 q B n m r) (fragOf q B n i) = fr0 q B n m (upd r i) := by
  have hl : (fragOf q B n 0).dat.length = min n B.length := by simp [fragOf, chk_len]
  have hn := hc.n1
  have h0 : (fragOf q B n i).off = 0 ↔ i = 0 := by
    simp only [fragOf]
    constructor
    · intro h
      rcases Nat.mul_eq_zero.1 h with h | h
      · exact h
      · omega
    · rintro rfl; simp
  cases hr : r i with
  | true =>
    have ht := there_yes hc q r hi hr
    have h1 : ¬ ((fragOf q B n i).off = 0 ∧ (fr0 q B n m r).has = false) := by
      rintro ⟨h1, h2⟩
      rw [h0.1 h1] at hr
      rw [fr0, hr] at h2
      cases h2
    unfold frPut
    rw [if_neg h1, psOf, covOf, ht, upd_same hr]
    rfl
  | false =>
    have ht := there_no hc q r hi hr
    obtain ⟨i1, i2⟩ := ins_no hc r hi hr
    have hps : psOf (fr0 q B n m r) (fragOf q B n i) = prs B n (upd r i) 0 m := by
      rw [psOf, ht]
      exact i1
    have hcov : covOf (fr0 q B n m r) (fragOf q B n i) = ((min (run (upd r i) 0 m * n) B.length : Nat) : Int) := by
      rw [covOf, ht]
      have := cov_no hc r hi hr
      rw [← i2] at this
      exact this
    unfold frPut
    rw [hps, hcov]
    by_cases e : i = 0
    · subst e
      rw [if_pos ⟨h0.2 rfl, by rw [fr0]; exact hr⟩]
      have e1 : upd r 0 0 = true := upd_self r 0
      simp only [fr0, e1, if_true, hl]
      simp [fragOf]
    · rw [if_neg (fun h => e (h0.1 h.1))]
      have e1 : upd r i 0 = r 0 := upd_ne r (fun h => e h.symm)
      simp only [fr0, e1]

theorem fr_small {B : List Int} {n m : Nat} (hc : Cuts B n m) (q : Nat) (r : Nat → Bool) : Small (fr0 q B n m r).ps := by
  intro p hp
  obtain ⟨j, h1, h2, h3, rfl⟩ := prs_mem hp
  have h4 := hc.inn j (by omega)
  have h5 := hc.big
  simp only [pc, chk_len]
  rcases h4 with h4 | rfl <;> omega

theorem fr_ok {B : List Int} {n m : Nat} (hc : Cuts B n m) (q : Nat) (r : Nat → Bool) {i : Nat} (hi : i < m) : OkF (fr0 q B n m r) (fragOf q B n i) := by
  have hb := hc.big
  refine ⟨rfl, rfl, ?_, fr_small hc q r, ?_, ?_, ?_, ?_⟩
  · have := prs_len B n r 0 m
    have := hc.few
    simp only [fr0]
    omega
  · intro a b hab hb
    simp only [fr0] at hb ⊢
    have hs : (prs B n r 0 m).Pairwise (fun x y => x.1 ≤ y.1) := by
      unfold prs
      rw [List.pairwise_map]
      refine List.Pairwise.imp ?_ (List.Pairwise.filter _ (List.pairwise_lt_range' (s := 0) (n := m) 1))
      intro x y hxy
      have := mul_step n hxy
      simp only [pc]
      omega
    rcases Nat.lt_or_ge a b with h | h
    · have h1 := List.pairwise_iff_getElem.1 hs a b (by omega) hb h
      rw [offAt, offAt, List.getD_eq_getElem?_getD, List.getD_eq_getElem?_getD, List.getElem?_eq_getElem hb, List.getElem?_eq_getElem (by omega)]
      exact h1
    · obtain rfl : a = b := by omega
      exact Int.le_refl _
  · simp only [fr0]; omega
  · simp only [fr0]; omega
  · intro ht hlt
    have hr : r i = false := by
      cases h : r i with
      | false => rfl
      | true => rw [there_yes hc q r hi h] at ht; cases ht
    have hidx := idx_at hc r hi
    have hn := hc.n1
    simp only [fr0, fragOf] at hlt ⊢
    rw [hidx] at hlt ⊢
    have e := prs_at B n r hi
    rw [hr] at e
    simp only [Bool.false_eq_true, if_false, List.nil_append] at e
    obtain ⟨p, hp⟩ : ∃ p, (prs B n r 0 m)[(prs B n r 0 i).length]? = some p := ⟨_, List.getElem?_eq_getElem hlt⟩
    obtain ⟨_, h2⟩ := getD_at hp
    rw [e, List.getElem?_append_right (Nat.le_refl _), Nat.sub_self] at hp
    obtain ⟨j, h3, h4, _, rfl⟩ := prs_mem (List.mem_of_getElem? hp)
    have h5 := mul_step n (show i < j by omega)
    have h6 := hc.inn j (by omega)
    rw [h2]
    simp only [pc, chk_len]
    rcases h6 with h6 | h6 <;> omega

/-- How much the pieces hold. -/
theorem sum_prs (B : List Int) (n : Nat) (r : Nat → Bool) : ∀ (k a : Nat), 0 ≤ sumL (prs B n r a k) ∧ sumL (prs B n r a k) + ((min (a * n) B.length : Nat) : Int) ≤ ((min ((a + k) * n) B.length : Nat) : Int)
  | 0, a => by simp [prs_zero, sumL]
  | k + 1, a => by
    have ih := sum_prs B n r k (a + 1)
    have e : a + 1 + k = a + (k + 1) := by omega
    rw [e, Nat.succ_mul a n] at ih
    cases h : r a with
    | true =>
      rw [prs_yes B n k h]
      have : sumL (pc B n a :: prs B n r (a + 1) k) = ((chk B n a).length : Int) + sumL (prs B n r (a + 1) k) := by simp [sumL, pc]
      rw [this, chk_len]
      omega
    | false =>
      rw [prs_no B n k h]
      omega

theorem flat_prs (B : List Int) (n : Nat) (r : Nat → Bool) : ∀ (k a : Nat), (∀ j, a ≤ j → j < a + k → r j = true) → flatD (prs B n r a k) = (B.drop (a * n)).take (k * n)
  | 0, a, _ => by simp [prs_zero, flatD]
  | k + 1, a, h => by
    rw [prs_yes B n k (h a (Nat.le_refl _) (by omega))]
    have ih := flat_prs B n r k (a + 1) (fun j h1 h2 => h j (by omega) (by omega))
    have e : flatD (pc B n a :: prs B n r (a + 1) k) = chk B n a ++ flatD (prs B n r (a + 1) k) := by simp [flatD, pc]
    rw [e, ih, chk, Nat.succ_mul, Nat.succ_mul, Nat.add_comm (k * n) n, List.take_add, List.drop_drop]

theorem flat_all {B : List Int} {n m : Nat} (hc : Cuts B n m) {r : Nat → Bool} (h : ∀ j, j < m → r j = true) : flatD (prs B n r 0 m) = B := by
  rw [flat_prs B n r m 0 (fun j _ h2 => h j (by omega))]
  simp only [Nat.zero_mul, List.drop_zero]
  exact List.take_of_length_le hc.all

theorem tight_prs (B : List Int) (n : Nat) {m : Nat} (hc : Cuts B n m) (r : Nat → Bool) : ∀ (k a : Nat), a + k ≤ m → (∀ j, a ≤ j → j < a + k → r j = true) → Tight ((a * n : Nat) : Int) (prs B n r a k)
  | 0, a, _, _ => trivial
  | k + 1, a, hk, h => by
    rw [prs_yes B n k (h a (Nat.le_refl _) (by omega))]
    refine ⟨rfl, ?_⟩
    cases k with
    | zero => exact trivial
    | succ k =>
      have ih := tight_prs B n hc r (k + 1) (a + 1) (by omega) (fun j h1 h2 => h j (by omega) (by omega))
      have h1 := hc.inn (a + 1) (by omega)
      rw [Nat.succ_mul] at h1 ih
      have e : ((a * n : Nat) : Int) + (((pc B n a).2.length : Nat) : Int) = ((a * n + n : Nat) : Int) := by
        simp only [pc, chk_len]
        rcases h1 with h1 | h1 <;> omega
      rw [e]
      exact ih

theorem run_full {B : List Int} {n m : Nat} (hc : Cuts B n m) (r : Nat → Bool) (ha : ∃ i, i < m ∧ r i = true) : (B.length : Int) ≤ ((min (run r 0 m * n) B.length : Nat) : Int) ↔ ∀ j, j < m → r j = true := by
  have hle := run_le r m 0
  constructor
  · intro h
    by_cases e : run r 0 m = m
    · intro j hj
      exact run_all r m 0 j (Nat.zero_le _) (by omega)
    · have hs := run_stop r m 0 (by omega)
      have h1 := hc.inn (run r 0 m) (by omega)
      rcases h1 with h1 | h1
      · omega
      · rw [h1] at h hs
        have h2 : B.length = 0 := by omega
        have hm : m = 1 := by
          by_cases h3 : 1 < m
          · rcases hc.inn 1 h3 with h4 | h4 <;> omega
          · have := hc.m1; omega
        obtain ⟨i, hi, hi2⟩ := ha
        obtain rfl : i = 0 := by omega
        rw [hs] at hi2
        cases hi2
  · intro h
    have : run r 0 m = m := by
      by_cases e : run r 0 m < m
      · have := run_stop r m 0 (by omega)
        rw [h _ e] at this
        cases this
      · omega
    rw [this]
    have := hc.all
    omega

end Go.Proofs.YtblmbbllfiigmaaDoor

namespace Go.Proofs.YtblmbbllfiigmaaDoor

/-- Messages that are cut to pieces. -/
structure Msgs where
  N : Nat
  B : Nat → List Int
  n : Nat → Nat
  m : Nat → Nat
  N8 : N ≤ 8
  cuts : ∀ k, k < N → Cuts (B k) (n k) (m k)
  short : ∀ k, k < N → (B k).length ≤ 600
  few : ∀ k, k < N → m k ≤ 100
  byt : ∀ k, k < N → ∀ x ∈ B k, 0 ≤ x ∧ x < 256
def Msgs.fr (P : Msgs) (k i : Nat) : Frag := fragOf k (P.B k) (P.n k) i
def Msgs.st (P : Msgs) (k : Nat) (r : Nat → Bool) : Fr := fr0 k (P.B k) (P.n k) (P.m k) r

def upd2 (r : Nat → Nat → Bool) (q i : Nat) : Nat → Nat → Bool := fun k => if k = q then upd (r q) i else r k
theorem upd2_self (r : Nat → Nat → Bool) (q i : Nat) : upd2 r q i q = upd (r q) i := if_pos rfl
theorem upd2_ne (r : Nat → Nat → Bool) {q i k : Nat} (h : k ≠ q) : upd2 r q i k = r k := if_neg h

/-- What a buffer holds when those pieces came. -/
structure Kn (P : Msgs) (s : St) (r : Nat → Nat → Bool) : Prop where
  nd : (s.ms.map (·.1)).Nodup
  is : ∀ p ∈ s.ms, s.cur ≤ p.1 ∧ p.1 < P.N ∧ p.2 = P.st p.1 (r p.1) ∧ ∃ i, i < P.m p.1 ∧ r p.1 i = true
  has : ∀ k, s.cur ≤ k → k < P.N → (∃ i, i < P.m k ∧ r k i = true) → ∃ f, (k, f) ∈ s.ms
  size : s.size = (s.ms.map fun p => sumL p.2.ps).sum
  count : s.count = (s.ms.map fun p => (p.2.ps.length : Int)).sum
  cur : s.cur ≤ P.N

theorem lookF_mem {k : Nat} {f : Fr} : ∀ {l : List (Nat × Fr)}, lookF k l = some f → (k, f) ∈ l := by
  intro l h
  unfold lookF at h
  rw [Option.map_eq_some_iff] at h
  obtain ⟨p, hp, rfl⟩ := h
  have h1 := List.mem_of_find?_eq_some hp
  have h2 := List.find?_some hp
  have : p.1 = k := by simpa using h2
  rw [← this]
  exact h1
theorem lookF_no {k : Nat} {l : List (Nat × Fr)} (h : lookF k l = none) (f : Fr) : (k, f) ∉ l := by
  intro hm
  unfold lookF at h
  rw [Option.map_eq_none_iff, List.find?_eq_none] at h
  have := h _ hm
  simp at this
theorem mem_lookF {k : Nat} {f : Fr} {l : List (Nat × Fr)} (hn : (l.map (·.1)).Nodup) (h : (k, f) ∈ l) : lookF k l = some f := by
  induction l with
  | nil => cases h
  | cons p l ih =>
    rw [List.map_cons, List.nodup_cons] at hn
    unfold lookF
    rw [List.find?_cons]
    by_cases e : p.1 = k
    · have hb : (p.1 == k) = true := by simpa using e
      rw [hb]
      rcases List.mem_cons.1 h with h | h
      · rw [← h]; rfl
      · exact absurd (List.mem_map.2 ⟨_, h, rfl⟩) (by rw [← e] at *; exact hn.1)
    · have hb : (p.1 == k) = false := by simpa using e
      rw [hb]
      rcases List.mem_cons.1 h with h | h
      · rw [← h] at e; exact absurd rfl e
      · exact ih hn.2 h

theorem setF_keys (k : Nat) (f : Fr) (l : List (Nat × Fr)) : (setF k f l).map (·.1) = l.map (·.1) := by
  unfold setF
  rw [List.map_map]
  apply List.map_congr_left
  intro p _
  simp only [Function.comp]
  split
  · rename_i h; exact h.symm
  · rfl
theorem setF_mem {k : Nat} {f : Fr} {l : List (Nat × Fr)} {p : Nat × Fr} (h : p ∈ setF k f l) : (p = (k, f)) ∨ (p ∈ l ∧ p.1 ≠ k) := by
  unfold setF at h
  obtain ⟨q, hq, rfl⟩ := List.mem_map.1 h
  by_cases e : q.1 = k
  · left; rw [if_pos e]
  · right; rw [if_neg e]; exact ⟨hq, e⟩
theorem setF_has {k : Nat} {f f0 : Fr} {l : List (Nat × Fr)} (h : (k, f0) ∈ l) : (k, f) ∈ setF k f l := by
  unfold setF
  exact List.mem_map.2 ⟨_, h, by simp⟩
theorem setF_other {k j : Nat} {f f0 : Fr} {l : List (Nat × Fr)} (h : (j, f0) ∈ l) (e : j ≠ k) : (j, f0) ∈ setF k f l := by
  unfold setF
  exact List.mem_map.2 ⟨_, h, by simp [e]⟩
theorem setF_id {k : Nat} {f : Fr} {l : List (Nat × Fr)} (h : k ∉ l.map (·.1)) : setF k f l = l := by
  unfold setF
  conv => rhs; rw [← List.map_id l]
  apply List.map_congr_left
  intro p hp
  rw [if_neg (fun e => h (List.mem_map.2 ⟨p, hp, e⟩))]
  rfl
theorem setF_sum (F : Nat × Fr → Int) {k : Nat} {f f0 : Fr} : ∀ {l : List (Nat × Fr)}, (l.map (·.1)).Nodup → (k, f0) ∈ l → ((setF k f l).map F).sum = (l.map F).sum - F (k, f0) + F (k, f)
  | [], _, h => by cases h
  | p :: l, hn, h => by
    rw [List.map_cons, List.nodup_cons] at hn
    by_cases e : p.1 = k
    · have hk : k ∉ l.map (·.1) := by rw [← e]; exact hn.1
      have hp : p = (k, f0) := by
        rcases List.mem_cons.1 h with h | h
        · exact h.symm
        · exact absurd (List.mem_map.2 ⟨_, h, rfl⟩) hk
      have : setF k f (p :: l) = (k, f) :: l := by
        have h2 := setF_id (f := f) hk
        unfold setF at h2 ⊢
        rw [List.map_cons, h2, if_pos e]
      rw [this, hp, List.map_cons, List.map_cons, List.sum_cons, List.sum_cons]
      omega
    · have hl : (k, f0) ∈ l := by
        rcases List.mem_cons.1 h with h | h
        · rw [← h] at e; exact absurd rfl e
        · exact h
      have ih := setF_sum F (f := f) hn.2 hl
      have : setF k f (p :: l) = p :: setF k f l := by
        unfold setF
        rw [List.map_cons, if_neg e]
      rw [this, List.map_cons, List.map_cons, List.sum_cons, List.sum_cons, ih]
      omega
theorem filter_sum (F : Nat × Fr → Int) {k : Nat} {f0 : Fr} : ∀ {l : List (Nat × Fr)}, (l.map (·.1)).Nodup → (k, f0) ∈ l → ((l.filter fun p => p.1 != k).map F).sum = (l.map F).sum - F (k, f0)
  | [], _, h => by cases h
  | p :: l, hn, h => by
    rw [List.map_cons, List.nodup_cons] at hn
    by_cases e : p.1 = k
    · have hk : k ∉ l.map (·.1) := by rw [← e]; exact hn.1
      have hp : p = (k, f0) := by
        rcases List.mem_cons.1 h with h | h
        · exact h.symm
        · exact absurd (List.mem_map.2 ⟨_, h, rfl⟩) hk
      have h1 : l.filter (fun p => p.1 != k) = l := by
        rw [List.filter_eq_self]
        intro q hq
        have : q.1 ≠ k := fun e2 => hk (List.mem_map.2 ⟨q, hq, e2⟩)
        simpa using this
      rw [List.filter_cons_of_neg (by simp [e]), h1, hp, List.map_cons, List.sum_cons]
      omega
    · have hl : (k, f0) ∈ l := by
        rcases List.mem_cons.1 h with h | h
        · rw [← h] at e; exact absurd rfl e
        · exact h
      have ih := filter_sum F hn.2 hl
      rw [List.filter_cons_of_pos (by simp [e]), List.map_cons, List.map_cons, List.sum_cons, List.sum_cons, ih]
      omega

theorem nodup_le : ∀ (N : Nat) (l : List Nat), l.Nodup → (∀ x ∈ l, x < N) → l.length ≤ N
  | 0, l, _, h => by
    cases l with
    | nil => simp
    | cons x l => have := h x (by simp); omega
  | N + 1, l, hn, h => by
    have h1 := nodup_le N (l.erase N) (hn.erase N) (fun x hx => by
      have h2 := (hn.mem_erase_iff).1 hx
      have h3 := h x h2.2
      have h4 := h2.1
      omega)
    rw [List.length_erase] at h1
    split at h1 <;> omega
theorem sum_bound (F : Nat × Fr → Int) (c : Nat) : ∀ (l : List (Nat × Fr)), (∀ p ∈ l, 0 ≤ F p ∧ F p ≤ c) → 0 ≤ (l.map F).sum ∧ (l.map F).sum ≤ (l.length * c : Nat)
  | [], _ => by simp
  | p :: l, h => by
    have h1 := h p (by simp)
    have h2 := sum_bound F c l (fun x hx => h x (by simp [hx]))
    rw [List.map_cons, List.sum_cons, List.length_cons, Nat.succ_mul]
    omega

theorem Kn.len {P : Msgs} {s : St} {r : Nat → Nat → Bool} (h : Kn P s r) : s.ms.length ≤ 8 := by
  have h1 := nodup_le P.N (s.ms.map (·.1)) h.nd (fun x hx => by
    obtain ⟨p, hp, rfl⟩ := List.mem_map.1 hx
    exact (h.is p hp).2.1)
  rw [List.length_map] at h1
  have := P.N8
  omega
theorem Kn.bounds {P : Msgs} {s : St} {r : Nat → Nat → Bool} (h : Kn P s r) : 0 ≤ s.size ∧ s.size ≤ 5000 ∧ 0 ≤ s.count ∧ s.count ≤ 800 := by
  have hl := h.len
  have h1 := sum_bound (fun p => sumL p.2.ps) 600 s.ms (fun p hp => by
    obtain ⟨_, h2, h3, _⟩ := h.is p hp
    have h4 := P.short p.1 h2
    have h5 := sum_prs (P.B p.1) (P.n p.1) (r p.1) (P.m p.1) 0
    rw [h3]
    simp only [Msgs.st, fr0]
    omega)
  have h2 := sum_bound (fun p => (p.2.ps.length : Int)) 100 s.ms (fun p hp => by
    obtain ⟨_, h2, h3, _⟩ := h.is p hp
    have h4 := P.few p.1 h2
    have h5 := prs_len (P.B p.1) (P.n p.1) (r p.1) 0 (P.m p.1)
    rw [h3]
    simp only [Msgs.st, fr0]
    omega)
  rw [← h.size] at h1
  rw [← h.count] at h2
  omega

theorem put_ps (ep : Int) (f : Fr) (g : Frag) : (frPut ep f g).ps = psOf f g := by
  unfold frPut
  split <;> rfl
theorem ins_sum (ps : List (Int × List Int)) (i : Nat) (p : Int × List Int) : sumL (insP ps i p) = sumL ps + (p.2.length : Int) := by
  have h : sumL ps = sumL (ps.take i) + sumL (ps.drop i) := by
    rw [sumL, sumL, sumL, ← List.sum_append, ← List.map_append, List.take_append_drop]
  rw [h, insP]
  simp [sumL]
  omega
theorem ins_len (ps : List (Int × List Int)) (i : Nat) (p : Int × List Int) : (insP ps i p).length = ps.length + 1 := by
  rw [insP]
  simp
  omega
theorem put_sum (ep : Int) (f : Fr) (g : Frag) : sumL (frPut ep f g).ps = sumL f.ps + newB f g := by
  rw [put_ps, psOf, newB]
  split
  · omega
  · rw [ins_sum]
theorem put_len (ep : Int) (f : Fr) (g : Frag) : ((frPut ep f g).ps.length : Int) = (f.ps.length : Int) + newC f g := by
  rw [put_ps, psOf, newC]
  split
  · omega
  · rw [ins_len]; omega

theorem fits_frag {B : List Int} {n m : Nat} (hc : Cuts B n m) {q i : Nat} (hq : q < 65536) (hi : i < m) : FitsF (fragOf q B n i) := by
  have hb := hc.big
  have h := hc.inn i hi
  refine ⟨by simp [fragOf], by simp only [fragOf]; omega, hq, ?_⟩
  simp only [fragOf, chk_len]
  rcases h with h | rfl <;> omega

theorem kn_start (P : Msgs) (s : St) (h0 : s.cur ≤ P.N) (h1 : s.ms = []) (h2 : s.size = 0) (h3 : s.count = 0) : Kn P s (fun _ _ => false) := by
  refine ⟨?_, ?_, ?_, ?_, ?_, h0⟩
  · rw [h1]; simp
  · rw [h1]; intro p hp; cases hp
  · rintro k _ _ ⟨i, _, h⟩; cases h
  · rw [h1, h2]; rfl
  · rw [h1, h3]; rfl

theorem Kn.put {P : Msgs} {s : St} {r : Nat → Nat → Bool} (h : Kn P s r) {q i : Nat} (hq : q < P.N) (hi : i < P.m q) : OkS s (P.fr q i) ∧ Kn P (stPut 0 s (P.fr q i)) (upd2 r q i) := by
  have hc := P.cuts q hq
  have h8 := P.N8
  have hb := h.bounds
  have hseq : (P.fr q i).seq = q := rfl
  have hst : ∀ f, s.cur ≤ q → lookF q s.ms = some f → f = P.st q (r q) := fun f _ hf => (h.is _ (lookF_mem hf)).2.2.1
  constructor
  · refine ⟨fits_frag hc (by omega) hi, fun hn => ⟨fun f hf => ?_, by omega, by omega, by omega, by omega⟩⟩
    rw [hseq] at hn hf
    rw [hst f (by omega) hf]
    exact fr_ok hc q (r q) hi
  · by_cases hlt : q < s.cur
    · have e : stPut 0 s (P.fr q i) = s := by
        unfold stPut
        rw [if_pos (by rw [hseq]; exact hlt)]
      rw [e]
      refine ⟨h.nd, fun p hp => ?_, fun k hk hkN hex => ?_, h.size, h.count, h.cur⟩
      · have := h.is p hp
        rw [upd2_ne r (by omega)]
        exact this
      · rw [upd2_ne r (by omega)] at hex
        exact h.has k hk hkN hex
    · have hq2 : s.cur ≤ q := by omega
      cases hl : lookF q s.ms with
      | some f =>
        have hf := hst f hq2 hl
        have hm := lookF_mem hl
        have e : stPut 0 s (P.fr q i) = ⟨s.cur, s.size + newB f (P.fr q i), s.count + newC f (P.fr q i), setF q (frPut 0 f (P.fr q i)) s.ms⟩ := by
          unfold stPut
          rw [if_neg (by rw [hseq]; exact hlt), hseq, hl]
        have hput : frPut 0 f (P.fr q i) = P.st q (upd (r q) i) := by rw [hf]; exact fr_put hc q (r q) hi
        rw [e]
        refine ⟨?_, fun p hp => ?_, fun k hk hkN hex => ?_, ?_, ?_, h.cur⟩
        · simp only
          rw [setF_keys]; exact h.nd
        · rcases setF_mem hp with rfl | ⟨hp, hne⟩
          · rw [upd2_self]
            exact ⟨hq2, hq, hput, i, hi, upd_self _ _⟩
          · rw [upd2_ne r hne]
            exact h.is p hp
        · by_cases ek : k = q
          · rw [ek]
            exact ⟨_, setF_has hm⟩
          · rw [upd2_ne r ek] at hex
            obtain ⟨f2, hf2⟩ := h.has k hk hkN hex
            exact ⟨f2, setF_other hf2 ek⟩
        · simp only
          rw [setF_sum (fun p => sumL p.2.ps) h.nd hm, put_sum, ← h.size]
          dsimp only
          omega
        · simp only
          rw [setF_sum (fun p => (p.2.ps.length : Int)) h.nd hm, put_len, ← h.count]
          dsimp only
          omega
      | none =>
        have hno := lookF_no hl
        have hfn : frNew (P.fr q i) = P.st q (fun _ => false) := fr0_none q _ _ (P.m q) i
        have hr0 : ∀ j, j < P.m q → r q j = false := fun j hj => by
          cases e : r q j with
          | false => rfl
          | true =>
            obtain ⟨f, hf⟩ := h.has q hq2 hq ⟨j, hj, e⟩
            exact absurd hf (hno f)
        have hsame : P.st q (upd (fun _ => false) i) = P.st q (upd (r q) i) := by
          have hc1 : ∀ j, 0 ≤ j → j < 0 + P.m q → upd (fun _ => false) i j = upd (r q) i j := fun j _ hj => by
            simp only [upd, hr0 j (by omega)]
          have hrun : ∀ k a, a + k ≤ P.m q → run (upd (fun _ => false) i) a k = run (upd (r q) i) a k := by
            intro k
            induction k with
            | zero => intro a _; rfl
            | succ k ih =>
              intro a ha
              rw [run, run, hc1 a (Nat.zero_le _) (by omega), ih (a + 1) (by omega)]
          simp only [Msgs.st, fr0]
          rw [prs_congr _ _ 0 (P.m q) hc1, hrun (P.m q) 0 (by omega), hc1 0 (Nat.le_refl _) (by have := hc.m1; omega)]
        have e : stPut 0 s (P.fr q i) = ⟨s.cur, s.size + newB (frNew (P.fr q i)) (P.fr q i), s.count + newC (frNew (P.fr q i)) (P.fr q i), s.ms ++ [(q, frPut 0 (frNew (P.fr q i)) (P.fr q i))]⟩ := by
          unfold stPut
          rw [if_neg (by rw [hseq]; exact hlt), hseq, hl]
        have hput : frPut 0 (frNew (P.fr q i)) (P.fr q i) = P.st q (upd (r q) i) := by rw [hfn, ← hsame]; exact fr_put hc q _ hi
        have hs0 : sumL (frNew (P.fr q i)).ps = 0 := rfl
        have hl0 : (frNew (P.fr q i)).ps.length = 0 := rfl
        rw [e]
        refine ⟨?_, fun p hp => ?_, fun k hk hkN hex => ?_, ?_, ?_, h.cur⟩
        · simp only [List.map_append, List.map_cons, List.map_nil]
          rw [List.nodup_append]
          refine ⟨h.nd, by simp, ?_⟩
          intro a ha b hb2
          obtain ⟨p, hp, rfl⟩ := List.mem_map.1 ha
          obtain rfl : b = q := by simpa using hb2
          intro e2
          exact hno p.2 (by rw [← e2]; exact hp)
        · rcases List.mem_append.1 hp with hp | hp
          · have hne : p.1 ≠ q := fun e2 => hno p.2 (by rw [← e2]; exact hp)
            rw [upd2_ne r hne]
            exact h.is p hp
          · obtain rfl : p = (q, frPut 0 (frNew (P.fr q i)) (P.fr q i)) := by simpa using hp
            rw [upd2_self]
            exact ⟨hq2, hq, hput, i, hi, upd_self _ _⟩
        · by_cases ek : k = q
          · rw [ek]
            exact ⟨frPut 0 (frNew (P.fr q i)) (P.fr q i), List.mem_append.2 (Or.inr (List.mem_singleton.2 rfl))⟩
          · rw [upd2_ne r ek] at hex
            obtain ⟨f2, hf2⟩ := h.has k hk hkN hex
            exact ⟨f2, List.mem_append.2 (Or.inl hf2)⟩
        · simp only [List.map_append, List.map_cons, List.map_nil, List.sum_append, List.sum_cons, List.sum_nil]
          rw [put_sum, ← h.size, hs0]
          omega
        · simp only [List.map_append, List.map_cons, List.map_nil, List.sum_append, List.sum_cons, List.sum_nil]
          rw [put_len, ← h.count, hl0]
          omega

/-- The pieces that came, as numbers of message and piece. -/
theorem Kn.puts {P : Msgs} : ∀ {qs : List (Nat × Nat)} {s : St} {r : Nat → Nat → Bool}, Kn P s r → (∀ p ∈ qs, p.1 < P.N ∧ p.2 < P.m p.1) →
    AllOk 0 s (qs.map fun p => P.fr p.1 p.2) ∧ Kn P ((qs.map fun p => P.fr p.1 p.2).foldl (stPut 0) s) (qs.foldl (fun r p => upd2 r p.1 p.2) r)
  | [], _, _, h, _ => ⟨trivial, h⟩
  | p :: qs, s, r, h, hq => by
    obtain ⟨h1, h2⟩ := hq p (by simp)
    obtain ⟨h3, h4⟩ := h.put h1 h2
    obtain ⟨h5, h6⟩ := Kn.puts (qs := qs) h4 (fun x hx => hq x (by simp [hx]))
    exact ⟨⟨h3, h5⟩, h6⟩

/-- Which pieces came. -/
theorem came : ∀ (qs : List (Nat × Nat)) (r : Nat → Nat → Bool) (k i : Nat), qs.foldl (fun r p => upd2 r p.1 p.2) r k i = true ↔ r k i = true ∨ (k, i) ∈ qs
  | [], r, k, i => by simp
  | p :: qs, r, k, i => by
    rw [List.foldl_cons, came qs (upd2 r p.1 p.2) k i]
    have : upd2 r p.1 p.2 k i = true ↔ r k i = true ∨ (k, i) = p := by
      by_cases e : k = p.1
      · rw [e, upd2_self]
        simp only [upd, Bool.or_eq_true, beq_iff_eq]
        constructor
        · rintro (h | h)
          · exact Or.inl h
          · right; rw [h]
        · rintro (h | h)
          · exact Or.inl h
          · right; rw [← h]
      · rw [upd2_ne r e]
        constructor
        · exact Or.inl
        · rintro (h | h)
          · exact h
          · rw [← h] at e; exact absurd rfl e
    rw [this, List.mem_cons]
    constructor
    · rintro ((h | h) | h)
      · exact Or.inl h
      · exact Or.inr (Or.inl h)
      · exact Or.inr (Or.inr h)
    · rintro (h | h | h)
      · exact Or.inl (Or.inl h)
      · exact Or.inl (Or.inr h)
      · exact Or.inr h

end Go.Proofs.YtblmbbllfiigmaaDoor

namespace Go.Proofs.YtblmbbllfiigmaaDoor
open Go.RowKit Go.Proofs.YtblmbbllfiigmaaDoorW.PrintWords Go.Proofs.YtblmbbllfiigmaaDoorW.PrintLast Go.Proofs.YtblmbbllfiigmaaDoorW.PrintMore PAll

/-- So it answers, given rounds enough. -/
def Ev {α : Type} (F : Nat → Option α) (r : α) : Prop := ∃ K, ∀ k, K ≤ k → F k = some r
theorem Ev.const {α : Type} (r : α) : Ev (fun _ => some r) r := ⟨0, fun _ _ => rfl⟩
theorem Ev.of {α : Type} {F : Nat → Option α} {r : α} (m : Nat) (h : ∀ k, F (k + m) = some r) : Ev F r := ⟨m, fun k hk => by have := h (k - m); rwa [Nat.sub_add_cancel hk] at this⟩
theorem Ev.step {α : Type} {F G : Nat → Option α} {r : α} (h : Ev G r) (hs : ∀ k, F (k + 1) = G k) : Ev F r := by
  obtain ⟨K, hK⟩ := h
  refine ⟨K + 1, fun k hk => ?_⟩
  have := hs (k - 1)
  rw [Nat.sub_add_cancel (by omega)] at this
  rw [this]
  exact hK _ (by omega)
theorem Ev.bind {α β : Type} {F : Nat → Option α} {G : Nat → α → Option β} {a : α} {r : β} (h : Ev F a) (h2 : Ev (fun k => G k a) r) : Ev (fun k => (F k).bind (G k)) r := by
  obtain ⟨K, hK⟩ := h
  obtain ⟨L, hL⟩ := h2
  refine ⟨max K L, fun k hk => ?_⟩
  have h1 := hK k (by omega)
  have h2 := hL k (by omega)
  simp only [h1, Option.bind_some]
  exact h2
theorem Ev.congr {α : Type} {F G : Nat → Option α} {r : α} (h : Ev G r) (hs : ∀ k, F k = G k) : Ev F r := by
  obtain ⟨K, hK⟩ := h
  exact ⟨K, fun k hk => by rw [hs, hK k hk]⟩
theorem Ev.get {α : Type} {F : Nat → Option α} {r : α} (h : Ev F r) : ∃ k, F k = some r := by
  obtain ⟨K, hK⟩ := h
  exact ⟨K, hK K (Nat.le_refl _)⟩

/-! ### texts and numbers -/
theorem str_app (xs ys : List Int) : strOfNums (xs ++ ys) = strOfNums xs ++ strOfNums ys := by
  apply ByteArray.ext
  simp [strOfNums]
theorem bytes_str (xs : List Int) (h : ∀ x ∈ xs, 0 ≤ x ∧ x < 256) : bytesOf (strOfNums xs) = xs := by
  simp only [strOfNums, bytesOf, List.map_map]
  conv => rhs; rw [← List.map_id xs]
  apply List.map_congr_left
  intro x hx
  obtain ⟨h0, h1⟩ := h x hx
  simp only [Function.comp, id, UInt8.toNat_ofNat']
  omega
theorem bytes_byt (b : ByteArray) : ∀ x ∈ bytesOf b, 0 ≤ x ∧ x < 256 := by
  intro x hx
  simp only [bytesOf, List.mem_map] at hx
  obtain ⟨y, _, rfl⟩ := hx
  have := y.toNat_lt
  omega
theorem str_cut (b : ByteArray) (i j : Nat) : b.extract i j = strOfNums (((bytesOf b).drop i).take (j - i)) := by
  apply ByteArray.ext
  apply Array.toList_inj.1
  have h : ∀ l : List UInt8, (l.map fun b => (b.toNat : Int)).map (fun n => UInt8.ofNat n.toNat) = l := fun l => by
    rw [List.map_map]
    conv => rhs; rw [← List.map_id l]
    apply List.map_congr_left
    intro x _
    simp
  rw [ByteArray.data_extract, Array.toList_extract]
  simp only [strOfNums, bytesOf, ← List.map_drop, ← List.map_take, h]

/-! ### numbers written big end first -/
theorem big2 (v : Nat) : Ev (fun k => laws_big.f k (v : Int) 2) (strOfNums [((v / 256 % 256 : Nat) : Int), ((v % 256 : Nat) : Int)]) := by
  refine Ev.of 3 (fun k => ?_)
  simp [laws_big.f, laws_big.l0, wrap64, shr, IntKind.bits]
theorem big3 (v : Nat) : Ev (fun k => laws_big.f k (v : Int) 3) (strOfNums [((v / 65536 % 256 : Nat) : Int), ((v / 256 % 256 : Nat) : Int), ((v % 256 : Nat) : Int)]) := by
  refine Ev.of 4 (fun k => ?_)
  simp [laws_big.f, laws_big.l0, wrap64, shr, IntKind.bits]
theorem big6 (v : Nat) (hv : v < 65536) : Ev (fun k => laws_big.f k (v : Int) 6) (strOfNums [0, 0, 0, 0, ((v / 256 % 256 : Nat) : Int), ((v % 256 : Nat) : Int)]) := by
  refine Ev.of 7 (fun k => ?_)
  have e1 : (v : Int) / 1099511627776 = 0 := by omega
  have e2 : (v : Int) / 4294967296 = 0 := by omega
  have e3 : (v : Int) / 16777216 = 0 := by omega
  have e4 : (v : Int) / 65536 = 0 := by omega
  simp [laws_big.f, laws_big.l0, wrap64, shr, IntKind.bits, e1, e2, e3, e4]

theorem Ev.ite {α : Type} {p : Prop} [Decidable p] {F G : Nat → Option α} {r : α} (hp : p) (h : Ev F r) : Ev (fun k => if p then F k else G k) r := h.congr (fun _ => if_pos hp)
theorem Ev.els {α : Type} {p : Prop} [Decidable p] {F G : Nat → Option α} {r : α} (hp : ¬ p) (h : Ev G r) : Ev (fun k => if p then F k else G k) r := h.congr (fun _ => if_neg hp)
theorem Ev.eq {α : Type} {F : Nat → Option α} {r r' : α} (h : Ev F r) (e : r = r') : Ev F r' := e ▸ h
theorem Ev.done {α : Type} {r r' : α} (e : r = r') : Ev (fun _ => some r) r' := e ▸ Ev.const r
theorem u64_small (n : Nat) (h : n ≤ 1000000) : IntKind.u64.wrap (n : Int) = (n : Int) := by rw [IntKind.wrap_u64]; omega
theorem w64_small (n : Int) (h0 : -1000000000 ≤ n) (h : n ≤ 1000000000) : wrap64 n = n := by unfold wrap64; omega

/-! ### a piece, a record -/
theorem piece_ev (t q : Nat) (b : ByteArray) (o n : Nat) (hq : q ≤ 1000000) (hb : b.size ≤ 100000) (ho : o ≤ b.size) (hn : n ≤ 100000) :
    Ev (fun k => laws_piece.f k (t : Int) (q : Int) b (o : Int) (n : Int)) (strOfNums (enc ⟨t, b.size, q, o, ((bytesOf b).drop o).take n⟩)) := by
  obtain ⟨c, hc⟩ : ∃ c, c = min n (b.size - o) := ⟨_, rfl⟩
  have em : mn (n : Int) (wrap64 ((b.size : Int) - (o : Int))) = (c : Int) := by
    rw [w64_small _ (by omega) (by omega), mn]
    split <;> omega
  have ee : wrap64 ((o : Int) + (c : Int)) = ((o + c : Nat) : Int) := by rw [w64_small _ (by omega) (by omega)]; omega
  unfold laws_piece.f
  rw [em, ee, u64_small _ (by omega), u64_small _ (by omega), u64_small _ (by omega), u64_small _ (by omega)]
  simp only [Option.bind_some]
  refine Ev.bind (big3 _) (Ev.ite (by simp [strOfNums_size]) ?_)
  refine Ev.bind (big2 _) (Ev.ite (by simp [strOfNums_size, ByteArray.size_append]) ?_)
  refine Ev.bind (big3 _) (Ev.ite (by simp [strOfNums_size, ByteArray.size_append]) ?_)
  refine Ev.bind (big3 _) (Ev.ite (by simp [strOfNums_size, ByteArray.size_append]) ?_)
  refine Ev.ite (by omega) (Ev.ite (by omega) (Ev.ite (by omega) (Ev.ite ?_ (Ev.done ?_))))
  · simp only [strOfNums_size, ByteArray.size_append, ByteArray.size_extract, List.length_cons, List.length_nil]
    omega
  · rw [str_cut]
    have e1 : (((o + c : Nat) : Int).toNat - ((o : Nat) : Int).toNat) = c := by omega
    have e2 : (((bytesOf b).drop o).take n) = (((bytesOf b).drop o).take c) := by
      rw [List.take_eq_take_iff]
      simp only [List.length_drop, bytesOf_length]
      omega
    have e3 : (((bytesOf b).drop o).take c).length = c := by
      simp only [List.length_take, List.length_drop, bytesOf_length]
      omega
    rw [e1, e2, Int.toNat_natCast]
    simp only [← str_app, enc, hdr12, e3]
    rfl
/-- A record's bytes. -/
def recN (i : Nat) (l : List Int) : List Int := [22, 254, 253, 0, 0, 0, 0, 0, 0, ((i / 256 % 256 : Nat) : Int), ((i % 256 : Nat) : Int), ((l.length / 256 % 256 : Nat) : Int), ((l.length % 256 : Nat) : Int)] ++ l
theorem rec_ev (i : Nat) (l : List Int) (hi : i < 65536) (hl : l.length ≤ 100000) : Ev (fun k => laws_record.f k (i : Int) (strOfNums l)) (strOfNums (recN i l)) := by
  unfold laws_record.f
  have e : ((strOfNums l).size : Int) = ((l.length : Nat) : Int) := by rw [strOfNums_size]
  rw [u64_small _ (by omega), e, u64_small _ (by omega)]
  have e5 : (⟨#[22, 254, 253, 0, 0]⟩ : ByteArray) = strOfNums [22, 254, 253, 0, 0] := by rfl
  rw [e5]
  refine Ev.bind (big6 _ hi) (Ev.ite (by simp [strOfNums_size]) ?_)
  refine Ev.bind (big2 _) (Ev.ite (by simp [strOfNums_size, ByteArray.size_append]) ?_)
  refine Ev.ite (by simp only [strOfNums_size, ByteArray.size_append, List.length_cons, List.length_nil]; omega) (Ev.done ?_)
  simp only [← str_app]
  rfl

end Go.Proofs.YtblmbbllfiigmaaDoor

namespace Go.Proofs.YtblmbbllfiigmaaDoor
open Go.RowKit Go.Proofs.YtblmbbllfiigmaaDoorW.PrintWords Go.Proofs.YtblmbbllfiigmaaDoorW.PrintLast Go.Proofs.YtblmbbllfiigmaaDoorW.PrintMore PAll

/-- A push of a record of fragments. -/
def pushC (i : Nat) (gs : List Frag) : Cmd := ⟨true, strOfNums (recN i (gs.flatMap enc)), gs⟩
def popC : Cmd := ⟨false, ⟨#[]⟩, []⟩

theorem enc_byt (g : Frag) (ht : g.typ < 256) (hd : ∀ x ∈ g.dat, 0 ≤ x ∧ x < 256) : ∀ x ∈ enc g, 0 ≤ x ∧ x < 256 := by
  intro x hx
  unfold enc hdr12 at hx
  rcases List.mem_append.1 hx with h | h
  · simp only [List.mem_cons, List.not_mem_nil, or_false] at h
    omega
  · exact hd x h
theorem rec_byt (i : Nat) (l : List Int) (hl : ∀ x ∈ l, 0 ≤ x ∧ x < 256) : ∀ x ∈ recN i l, 0 ≤ x ∧ x < 256 := by
  intro x hx
  unfold recN at hx
  rcases List.mem_append.1 hx with h | h
  · simp only [List.mem_cons, List.not_mem_nil, or_false] at h
    omega
  · exact hl x h
theorem rec_len (i : Nat) (l : List Int) : (recN i l).length = 13 + l.length := by simp [recN]; omega
theorem encs_len (gs : List Frag) : gs.length * 12 ≤ (gs.flatMap enc).length := by
  induction gs with
  | nil => simp
  | cons g gs ih => rw [enc_all, List.length_append, enc_len, List.length_cons]; omega

theorem rec_bytes (i : Nat) (l : List Int) (hl : ∀ x ∈ l, 0 ≤ x ∧ x < 256) : bytesOf (strOfNums (recN i l)) = recN i l := bytes_str _ (rec_byt i l hl)

theorem byt_of {l : List Int} (h : ∀ x ∈ l, 0 ≤ x ∧ x < 256) : Byt l := fun z hz => by
  obtain ⟨a, b⟩ := h z hz
  simp [Lit.wf, IntKind.min, IntKind.max, IntKind.signed, IntKind.bits]
  omega

theorem rec_ok (i : Nat) (gs : List Frag) (hne : gs ≠ []) (hb : ∀ g ∈ gs, FitsF g ∧ ∀ x ∈ g.dat, 0 ≤ x ∧ x < 256) (hl : (gs.flatMap enc).length ≤ 60000) : RecOk (bytesOf (pushC i gs).data) 0 gs := by
  have hby : ∀ x ∈ gs.flatMap enc, 0 ≤ x ∧ x < 256 := fun x hx => by
    obtain ⟨g, hg, hx⟩ := List.mem_flatMap.1 hx
    exact enc_byt g (hb g hg).1.typ (hb g hg).2 x hx
  have h12 := encs_len gs
  have h0 : 0 < gs.length := List.length_pos_iff.2 hne
  unfold pushC
  simp only
  rw [rec_bytes i _ hby]
  refine ⟨byt_of (rec_byt i _ hby), ?_, ?_, rfl, rfl, rfl, rfl, ?_⟩
  · rw [rec_len]; omega
  · rw [rec_len]; omega
  · simp [recN]

theorem cmd_push (i : Nat) (gs : List Frag) (hb : ∀ g ∈ gs, FitsF g ∧ ∀ x ∈ g.dat, 0 ≤ x ∧ x < 256) : cmdOf ⟨true, strOfNums (recN i (gs.flatMap enc))⟩ = pushC i gs := by
  have hby : ∀ x ∈ gs.flatMap enc, 0 ≤ x ∧ x < 256 := fun x hx => by
    obtain ⟨g, hg, hx⟩ := List.mem_flatMap.1 hx
    exact enc_byt g (hb g hg).1.typ (hb g hg).2 x hx
  have h12 := encs_len gs
  have e : (recN i (gs.flatMap enc)).drop 13 = gs.flatMap enc := by simp [recN]
  unfold cmdOf pushC
  simp only
  rw [rec_bytes i _ hby, e, strOfNums_size, parse_enc gs _ (by rw [rec_len]; omega) (fun g hg => (hb g hg).1)]
theorem cmd_pop : cmdOf ⟨false, ⟨#[]⟩⟩ = popC := rfl

/-! ### over messages in pieces -/
theorem Msgs.frag_ok (P : Msgs) {q i : Nat} (hq : q < P.N) (hi : i < P.m q) : FitsF (P.fr q i) ∧ ∀ x ∈ (P.fr q i).dat, 0 ≤ x ∧ x < 256 := by
  have := P.N8
  refine ⟨fits_frag (P.cuts q hq) (by omega) hi, fun x hx => P.byt q hq x ?_⟩
  exact List.mem_of_mem_drop (List.mem_of_mem_take hx)
/-- The fragments of such numbers. -/
def Msgs.frs (P : Msgs) (qs : List (Nat × Nat)) : List Frag := qs.map fun p => P.fr p.1 p.2
def Msgs.ok (P : Msgs) (qs : List (Nat × Nat)) : Prop := ∀ p ∈ qs, p.1 < P.N ∧ p.2 < P.m p.1
theorem Msgs.frs_ok (P : Msgs) {qs : List (Nat × Nat)} (h : P.ok qs) : ∀ g ∈ P.frs qs, FitsF g ∧ ∀ x ∈ g.dat, 0 ≤ x ∧ x < 256 := by
  intro g hg
  obtain ⟨p, hp, rfl⟩ := List.mem_map.1 hg
  exact P.frag_ok (h p hp).1 (h p hp).2

def comes (r : Nat → Nat → Bool) (qs : List (Nat × Nat)) : Nat → Nat → Bool := qs.foldl (fun r p => upd2 r p.1 p.2) r

theorem Kn.push {P : Msgs} {s : St} {r : Nat → Nat → Bool} (h : Kn P s r) (i : Nat) {qs : List (Nat × Nat)} (hq : P.ok qs) (hne : qs ≠ []) (hl : ((P.frs qs).flatMap enc).length ≤ 60000) :
    CmdOk s (pushC i (P.frs qs)) ∧ Kn P (stepSt s (pushC i (P.frs qs))) (comes r qs) := by
  obtain ⟨h1, h2⟩ := h.puts hq
  have hb := h.bounds
  have hc := h.cur
  have h8 := P.N8
  refine ⟨⟨by omega, by omega, by omega, fun _ => ⟨rec_ok i _ (by simpa [Msgs.frs] using hne) (P.frs_ok hq) hl, h1⟩, fun hp => by cases hp⟩, h2⟩

/-- The whole message, with its header. -/
def Msgs.whole (P : Msgs) (k : Nat) : ByteArray := strOfNums (enc ⟨11, (P.B k).length, k, 0, P.B k⟩)

theorem Kn.full {P : Msgs} {s : St} {r : Nat → Nat → Bool} (h : Kn P s r) (hc : s.cur < P.N) (hall : ∀ i, i < P.m s.cur → r s.cur i = true) : fullF s = some (P.st s.cur (r s.cur)) := by
  have hcut := P.cuts _ hc
  have hex : ∃ i, i < P.m s.cur ∧ r s.cur i = true := ⟨0, hcut.m1, hall 0 hcut.m1⟩
  obtain ⟨f, hf⟩ := h.has s.cur (Nat.le_refl _) hc hex
  have hl := mem_lookF h.nd hf
  have hfe : f = P.st s.cur (r s.cur) := (h.is _ hf).2.2.1
  unfold fullF
  rw [hl]
  simp only
  rw [hfe, if_pos]
  exact (run_full hcut (r s.cur) hex).2 hall
theorem Kn.lacks {P : Msgs} {s : St} {r : Nat → Nat → Bool} (h : Kn P s r) (hno : s.cur = P.N ∨ ∃ i, i < P.m s.cur ∧ r s.cur i = false) : fullF s = none := by
  unfold fullF
  cases hl : lookF s.cur s.ms with
  | none => rfl
  | some f =>
    obtain ⟨_, h2, h3, h4⟩ := h.is _ (lookF_mem hl)
    simp only at h2 h3 h4 ⊢
    rw [if_neg]
    intro hle
    rw [h3] at hle
    have := (run_full (P.cuts _ h2) (r s.cur) h4).1 hle
    rcases hno with e | ⟨i, hi, hi2⟩
    · omega
    · rw [this i hi] at hi2
      cases hi2

theorem Kn.popped {P : Msgs} {s : St} {r : Nat → Nat → Bool} (h : Kn P s r) (hc : s.cur < P.N) (hall : ∀ i, i < P.m s.cur → r s.cur i = true) :
    CmdOk s popC ∧ Kn P (stepSt s popC) r ∧ (stepSt s popC).cur = s.cur + 1 ∧ stepTold s popC = ⟨false, false, false, true, P.whole s.cur, 0, (stepSt s popC).size⟩ := by
  have hcut := P.cuts _ hc
  have h8 := P.N8
  have hb := h.bounds
  have hf := h.full hc hall
  have hr0 := hall 0 hcut.m1
  have hex : ∃ i, i < P.m s.cur ∧ r s.cur i = true := ⟨0, hcut.m1, hr0⟩
  obtain ⟨f, hfm⟩ := h.has s.cur (Nat.le_refl _) hc hex
  have hl := mem_lookF h.nd hfm
  have hfe : f = P.st s.cur (r s.cur) := (h.is _ hfm).2.2.1
  rw [hfe] at hfm hl
  have hsum := sum_prs (P.B s.cur) (P.n s.cur) (r s.cur) (P.m s.cur) 0
  have hlen := prs_len (P.B s.cur) (P.n s.cur) (r s.cur) 0 (P.m s.cur)
  have hsh := P.short _ hc
  have hfw := P.few _ hc
  have e0 : (P.st s.cur (r s.cur)).h0 = ((11 : Nat) : Int) := by simp [Msgs.st, fr0, hr0]
  have e1 : (P.st s.cur (r s.cur)).h1 = ((P.B s.cur).length : Nat) := by simp [Msgs.st, fr0, hr0]
  have e2 : (P.st s.cur (r s.cur)).h2 = (s.cur : Nat) := by simp [Msgs.st, fr0, hr0]
  have hstep : stepSt s popC = popSt s (P.st s.cur (r s.cur)) := by
    unfold stepSt
    rw [hf]
    rfl
  refine ⟨⟨by omega, by omega, by omega, (fun hp => by cases hp), fun _ f2 hf2 => ?_⟩, ?_, ?_, ?_⟩
  · rw [hf] at hf2
    obtain rfl := Option.some.inj hf2
    rw [e0, e1, e2]
    simp only [Int.toNat_natCast]
    refine ⟨by omega, hl, (run_full hcut (r s.cur) hex).2 hall, e0, e1, e2, by omega, by omega, ?_, fr_small hcut _ _, ?_, ?_, ?_, by omega, by omega, by omega, by omega⟩
    · have := tight_prs (P.B s.cur) (P.n s.cur) hcut (r s.cur) (P.m s.cur) 0 (by omega) (fun j _ hj => hall j (by omega))
      simpa [Msgs.st, fr0] using this
    · simp only [Msgs.st, fr0]; omega
    · simp only [Msgs.st, fr0]; omega
    · simp only [Msgs.st, fr0]; omega
  · rw [hstep]
    refine ⟨?_, fun p hp => ?_, fun k hk hkN hx => ?_, ?_, ?_, ?_⟩
    · exact h.nd.sublist (List.Sublist.map _ List.filter_sublist)
    · obtain ⟨hp1, hp2⟩ := List.mem_filter.1 hp
      obtain ⟨a, b⟩ := h.is p hp1
      have : p.1 ≠ s.cur := by simpa using hp2
      exact ⟨by simp only [popSt]; omega, b⟩
    · simp only [popSt] at hk
      obtain ⟨f2, hf2⟩ := h.has k (by omega) hkN hx
      exact ⟨f2, List.mem_filter.2 ⟨hf2, by simp; omega⟩⟩
    · simp only [popSt]
      rw [filter_sum (fun p => sumL p.2.ps) h.nd hfm, ← h.size]
    · simp only [popSt]
      rw [filter_sum (fun p => (p.2.ps.length : Int)) h.nd hfm, ← h.count]
    · simp only [popSt]; omega
  · rw [hstep]; rfl
  · have ho : outB (P.st s.cur (r s.cur)) = P.whole s.cur := by
      unfold outB outF Msgs.whole enc
      rw [e0, e1, e2]
      simp only [Int.toNat_natCast]
      have : flatD (P.st s.cur (r s.cur)).ps = P.B s.cur := flat_all hcut hall
      rw [this]
    unfold stepTold
    rw [hf]
    simp only [popC, Bool.false_eq_true, if_false]
    rw [ho]
    rfl

theorem Kn.stays {P : Msgs} {s : St} {r : Nat → Nat → Bool} (h : Kn P s r) (hno : s.cur = P.N ∨ ∃ i, i < P.m s.cur ∧ r s.cur i = false) :
    CmdOk s popC ∧ stepSt s popC = s ∧ stepTold s popC = ⟨false, false, false, false, ⟨#[]⟩, 0, s.size⟩ := by
  have h8 := P.N8
  have hb := h.bounds
  have hc := h.cur
  have hf := h.lacks hno
  have hs : stepSt s popC = s := by
    unfold stepSt
    rw [hf]
    rfl
  refine ⟨⟨by omega, by omega, by omega, (fun hp => by cases hp), fun _ f2 hf2 => ?_⟩, hs, ?_⟩
  · rw [hf] at hf2; cases hf2
  · unfold stepTold
    rw [hf, hs]
    rfl

end Go.Proofs.YtblmbbllfiigmaaDoor

namespace Go.Proofs.YtblmbbllfiigmaaDoor
open Go.RowKit Go.Proofs.YtblmbbllfiigmaaDoorW.PrintWords Go.Proofs.YtblmbbllfiigmaaDoorW.PrintLast Go.Proofs.YtblmbbllfiigmaaDoorW.PrintMore PAll

/-- The step of a script as the program sees it. -/
def stepOf (c : Cmd) : S40 := ⟨c.push, c.data⟩
/-- The command is what its bytes say. -/
def Says (c : Cmd) : Prop := cmdOf (stepOf c) = c
theorem says_push (i : Nat) (gs : List Frag) (hb : ∀ g ∈ gs, FitsF g ∧ ∀ x ∈ g.dat, 0 ≤ x ∧ x < 256) : Says (pushC i gs) := cmd_push i gs hb
theorem says_pop : Says popC := cmd_pop
theorem says_all {cs : List Cmd} (h : ∀ c ∈ cs, Says c) : (cs.map stepOf).map cmdOf = cs := by
  rw [List.map_map]
  conv => rhs; rw [← List.map_id cs]
  apply List.map_congr_left
  intro c hc
  exact h c hc

theorem given_ev {cs : List Cmd} (hs : ∀ c ∈ cs, Says c) (hn : cs.length ≤ 1000000) (hr : RunOk st0 cs) : Ev (fun k => impl_Fragments.f k (cs.map stepOf)) (runTold st0 cs) := by
  refine ⟨0, fun k _ => ?_⟩
  unfold impl_Fragments.f
  rw [says_all hs, List.length_map, if_pos ⟨hn, hr⟩]
theorem frag_len (P : Msgs) {q i : Nat} (hq : q < P.N) : (enc (P.fr q i)).length ≤ 612 := by
  have := P.short q hq
  rw [enc_len]
  simp only [Msgs.fr, fragOf, chk_len]
  omega

theorem put_cur (ep : Int) (g : Frag) (s : St) : (stPut ep s g).cur = s.cur := by
  unfold stPut
  split
  · rfl
  · split <;> rfl
theorem puts_cur (ep : Int) : ∀ (gs : List Frag) (s : St), (gs.foldl (stPut ep) s).cur = s.cur
  | [], _ => rfl
  | g :: gs, s => by rw [List.foldl_cons, puts_cur ep gs, put_cur]

theorem kn_zero (P : Msgs) : Kn P st0 (fun _ _ => false) := kn_start P st0 (Nat.zero_le _) rfl rfl rfl

theorem rec_piece (P : Msgs) (p : Nat × Nat) (hp : p.1 < P.N) (i : Nat) (hi : i < 65536) : Ev (fun k => laws_record.f k (i : Int) (strOfNums (enc (P.fr p.1 p.2)))) (pushC i (P.frs [p])).data := by
  have h := frag_len P (i := p.2) hp
  have h2 := rec_ev i (enc (P.fr p.1 p.2)) hi (by omega)
  refine h2.eq ?_
  simp [pushC, Msgs.frs]

end Go.Proofs.YtblmbbllfiigmaaDoor

namespace Go.Proofs.YtblmbbllfiigmaaDoor
open Go.RowKit Go.Proofs.YtblmbbllfiigmaaDoorW.PrintWords Go.Proofs.YtblmbbllfiigmaaDoorW.PrintLast Go.Proofs.YtblmbbllfiigmaaDoorW.PrintMore PAll

theorem rdOf_at {α : Type} (d : α) (l : List α) (i : Nat) (x : α) (h : l[i]? = some x) : rdOf d l (i : Int) = x := by
  rw [rdOf, Int.toNat_natCast, List.getD_eq_getElem?_getD, h]
  rfl
theorem w64_succ (n : Nat) (h : n ≤ 1000000000000) : wrap64 ((n : Int) + 1) = ((n + 1 : Nat) : Int) := by unfold wrap64; omega

/-! ### how many pieces -/
def cntOf (size n : Nat) : Nat := max 1 ((size + n - 1) / n)
theorem cuts_of (b : ByteArray) (n : Nat) (h1 : 1 ≤ n) (hb : b.size ≤ 100000) (hm : cntOf b.size n ≤ 1000) : Cuts (bytesOf b) n (cntOf b.size n) := by
  refine ⟨h1, by unfold cntOf; omega, by rw [bytesOf_length]; exact hb, hm, fun i hi => ?_, ?_⟩
  · rw [bytesOf_length]
    by_cases h0 : i = 0
    · exact Or.inr h0
    · left
      unfold cntOf at hi
      have h2 : i + 1 ≤ (b.size + n - 1) / n := by omega
      rw [Nat.le_div_iff_mul_le (by omega), Nat.succ_mul] at h2
      omega
  · rw [bytesOf_length]
    have h2 := Nat.lt_mul_div_succ (b.size + n - 1) (show 0 < n by omega)
    rw [Nat.mul_comm, Nat.succ_mul] at h2
    have h3 := Nat.mul_le_mul_right n (show (b.size + n - 1) / n ≤ cntOf b.size n by unfold cntOf; omega)
    omega
theorem cnt_few (size n : Nat) (h1 : 1 ≤ n) (hs : size < 600) (h8 : 8 ≤ n ∨ size < 100) : cntOf size n ≤ 100 := by
  unfold cntOf
  have : (size + n - 1) / n ≤ 100 := by
    apply Nat.div_le_of_le_mul
    rcases h8 with h8 | h8
    · have := Nat.mul_le_mul_right 100 h8
      omega
    · have := Nat.mul_le_mul_right 99 h1
      omega
  omega

/-! ### cutting -/
/-- The text of a piece. -/
def pieceT (q : Nat) (b : ByteArray) (n i : Nat) : ByteArray := strOfNums (enc (fragOf q (bytesOf b) n i))
theorem pieceT_eq (q : Nat) (b : ByteArray) (n i : Nat) : pieceT q b n i = strOfNums (enc ⟨11, b.size, q, i * n, ((bytesOf b).drop (i * n)).take n⟩) := by
  unfold pieceT fragOf chk
  rw [bytesOf_length]
theorem cut_loop (q : Nat) (b : ByteArray) (n m : Nat) (hq : q ≤ 1000000) (hn : n ≤ 1000) (hb : b.size ≤ 100000) (hc : Cuts (bytesOf b) n m) : ∀ (d i : Nat), i + d = m →
    Ev (fun k => laws_cutting.l0 k 11 (q : Int) b (n : Int) ((List.range i).map (pieceT q b n)) ((i * n : Nat) : Int)) ((List.range m).map (pieceT q b n))
  | 0, i, h => by
    have hi : i = m := by omega
    subst hi
    have h1 := hc.all
    have h2 := hc.n1
    have h3 := hc.m1
    have h4 : 1 * 1 ≤ i * n := Nat.mul_le_mul h3 h2
    rw [bytesOf_length] at h1
    refine Ev.step (G := fun _ => some ((List.range i).map (pieceT q b n))) (Ev.const _) (fun k => ?_)
    rw [laws_cutting.l0, if_neg (by omega), if_neg (by omega)]
  | d + 1, i, h => by
    have h1 := hc.inn i (by omega)
    have hlt := hc.few
    rw [bytesOf_length] at h1
    have hle : i * n ≤ b.size := by
      rcases h1 with h1 | rfl
      · omega
      · simp
    have ih := cut_loop q b n m hq hn hb hc d (i + 1) (by omega)
    rw [List.range_succ, List.map_append, List.map_cons, List.map_nil] at ih
    have e : wrap64 (((i * n : Nat) : Int) + (n : Int)) = (((i + 1) * n : Nat) : Int) := by
      have h2 : i * n ≤ 100000 := by omega
      rw [Nat.succ_mul]
      generalize i * n = a at h2 ⊢
      rw [w64_small _ (by omega) (by omega)]
      omega
    have hbody : Ev (fun k => (laws_piece.f k 11 (q : Int) b ((i * n : Nat) : Int) (n : Int)).bind fun t => (if ((List.range i).map (pieceT q b n)).length < 8796093022208 then (laws_cutting.l0 k 11 (q : Int) b (n : Int) (((List.range i).map (pieceT q b n)) ++ [t]) (wrap64 (((i * n : Nat) : Int) + (n : Int)))) else none)) ((List.range m).map (pieceT q b n)) := by
      have hp := piece_ev 11 q b (i * n) n hq hb hle (by omega)
      rw [← pieceT_eq] at hp
      refine Ev.bind hp (Ev.ite (by rw [List.length_map, List.length_range]; omega) ?_)
      rw [e]
      exact ih
    rcases h1 with h1 | h1
    · refine Ev.step hbody (fun k => ?_)
      rw [laws_cutting.l0, if_pos (by omega)]
    · by_cases h2 : i * n < b.size
      · refine Ev.step hbody (fun k => ?_)
        rw [laws_cutting.l0, if_pos (by omega)]
      · refine Ev.step hbody (fun k => ?_)
        rw [laws_cutting.l0, if_neg (by omega), if_pos (by rw [h1]; simp)]
theorem cut_ev (q : Nat) (b : ByteArray) (n m : Nat) (hq : q ≤ 1000000) (hn : n ≤ 1000) (hb : b.size ≤ 100000) (hc : Cuts (bytesOf b) n m) :
    Ev (fun k => laws_cutting.f k 11 (q : Int) b (n : Int)) ((List.range m).map (pieceT q b n)) := by
  have h := cut_loop q b n m hq hn hb hc m 0 (by omega)
  simp only [List.range_zero, List.map_nil, Nat.zero_mul] at h
  exact h

/-! ### pops -/
/-! ### light -/
def sizes (l : List ByteArray) : Nat := (l.map (·.size)).sum
theorem light_loop (l : List ByteArray) (n : Int) (hl : l.length ≤ 2147483647) (hs : ∀ b ∈ l, b.size ≤ 2147483647) : ∀ (d i : Nat) (acc : Nat), i + d = l.length → acc ≤ i * 2147483647 →
    ∃ r : Bool, Ev (fun k => laws_light.l0 k l n (acc : Int) l (l.length : Int) (i : Int)) r ∧ (r = true → 0 < l.length ∧ l.length < 8 ∧ acc + sizes (l.drop i) < 600 ∧ 1 ≤ n ∧ n ≤ 1000 ∧ (8 ≤ n ∨ acc + sizes (l.drop i) < 100))
  | 0, i, acc, h, ha => by
    have hd : sizes (l.drop i) = 0 := by rw [List.drop_of_length_le (by omega)]; rfl
    rw [hd]
    have step : ∀ (r : Bool) (F : Option Bool), F = some r → (∀ k, laws_light.l0 (k + 1) l n (acc : Int) l (l.length : Int) (i : Int) = F) → Ev (fun k => laws_light.l0 k l n (acc : Int) l (l.length : Int) (i : Int)) r := fun r F hF hk =>
      Ev.step (G := fun _ => some r) (Ev.const r) (fun k => by rw [hk k, hF])
    have e0 : ∀ k, laws_light.l0 (k + 1) l n (acc : Int) l (l.length : Int) (i : Int) = (if (l.length : Int) > 0 then (if (l.length : Int) < 8 then (if (acc : Int) < 600 then (if n ≥ 1 then (if n ≤ 1000 then (if n ≥ 8 then (some true) else (some (decide ((acc : Int) < 100)))) else (some false)) else (some false)) else (some false)) else (some false)) else (some false)) := fun k => by
      rw [laws_light.l0, if_neg (by omega)]
    by_cases c1 : (l.length : Int) > 0
    · by_cases c2 : (l.length : Int) < 8
      · by_cases c3 : (acc : Int) < 600
        · by_cases c4 : n ≥ 1
          · by_cases c5 : n ≤ 1000
            · by_cases c6 : n ≥ 8
              · exact ⟨true, step _ _ (by rw [if_pos c1, if_pos c2, if_pos c3, if_pos c4, if_pos c5, if_pos c6]) e0, fun _ => by omega⟩
              · refine ⟨decide ((acc : Int) < 100), step _ _ (by rw [if_pos c1, if_pos c2, if_pos c3, if_pos c4, if_pos c5, if_neg c6]) e0, fun hr => ?_⟩
                have := of_decide_eq_true hr
                omega
            · exact ⟨false, step _ _ (by rw [if_pos c1, if_pos c2, if_pos c3, if_pos c4, if_neg c5]) e0, fun h => by cases h⟩
          · exact ⟨false, step _ _ (by rw [if_pos c1, if_pos c2, if_pos c3, if_neg c4]) e0, fun h => by cases h⟩
        · exact ⟨false, step _ _ (by rw [if_pos c1, if_pos c2, if_neg c3]) e0, fun h => by cases h⟩
      · exact ⟨false, step _ _ (by rw [if_pos c1, if_neg c2]) e0, fun h => by cases h⟩
    · exact ⟨false, step _ _ (by rw [if_neg c1]) e0, fun h => by cases h⟩
  | d + 1, i, acc, h, ha => by
    have hi : i < l.length := by omega
    have hb := hs l[i] (List.getElem_mem hi)
    have hmul : (i + 1) * 2147483647 = i * 2147483647 + 2147483647 := by omega
    have hcap : i * 2147483647 ≤ 2147483647 * 2147483647 := Nat.mul_le_mul_right _ (by omega)
    obtain ⟨r, h1, h2⟩ := light_loop l n hl hs d (i + 1) (acc + l[i].size) (by omega) (by omega)
    have e : sizes (l.drop i) = l[i].size + sizes (l.drop (i + 1)) := by
      rw [List.drop_eq_getElem_cons hi]
      simp only [sizes, List.map_cons, List.sum_cons]
    refine ⟨r, Ev.step h1 (fun k => ?_), fun hr => by have := h2 hr; omega⟩
    have ew : wrap64 ((acc : Int) + ((l[i].size : Nat) : Int)) = ((acc + l[i].size : Nat) : Int) := by unfold wrap64; omega
    rw [laws_light.l0, if_pos (by omega), if_pos (by omega), if_pos (by omega), rdOf_at _ l i l[i] (List.getElem?_eq_getElem hi), ew, w64_succ _ (by omega)]
theorem light_ev (l : List ByteArray) (n : Int) (hl : l.length ≤ 2147483647) (hs : ∀ b ∈ l, b.size ≤ 2147483647) :
    ∃ r : Bool, Ev (fun k => laws_light.f k l n) r ∧ (r = true → 0 < l.length ∧ l.length < 8 ∧ sizes l < 600 ∧ 1 ≤ n ∧ n ≤ 1000 ∧ (8 ≤ n ∨ sizes l < 100)) := by
  obtain ⟨r, h1, h2⟩ := light_loop l n hl hs l.length 0 0 (by omega) (by omega)
  refine ⟨r, h1, fun hr => ?_⟩
  have := h2 hr
  simpa using this

/-- What is in another order came from numbers in another order. -/
theorem perm_map {α β : Type} (f : α → β) : ∀ {l1 l2 : List β}, l1.Perm l2 → ∀ L : List α, l2 = L.map f → ∃ L' : List α, L'.Perm L ∧ l1 = L'.map f := by
  intro l1 l2 h
  induction h with
  | nil =>
    intro L hL
    have : L = [] := by cases L with
      | nil => rfl
      | cons _ _ => cases hL
    exact ⟨[], by rw [this], rfl⟩
  | cons x _ ih =>
    intro L hL
    cases L with
    | nil => cases hL
    | cons y L =>
      rw [List.map_cons] at hL
      injection hL with e1 e2
      obtain ⟨L', h1, h2⟩ := ih L e2
      exact ⟨y :: L', h1.cons y, by rw [List.map_cons, ← e1, h2]⟩
  | swap x y l =>
    intro L hL
    match L, hL with
    | [], hL => cases hL
    | [_], hL => cases hL
    | a :: b :: L, hL =>
      simp only [List.map_cons, List.cons.injEq] at hL
      obtain ⟨e1, e2, e3⟩ := hL
      exact ⟨b :: a :: L, List.Perm.swap a b L, by simp [e1, e2, e3]⟩
  | trans _ _ ih1 ih2 =>
    intro L hL
    obtain ⟨L2, h1, h2⟩ := ih2 L hL
    obtain ⟨L1, h3, h4⟩ := ih1 L2 h2
    exact ⟨L1, h3.trans h1, h4⟩

end Go.Proofs.YtblmbbllfiigmaaDoor
