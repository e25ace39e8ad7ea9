/-
  Plain laws of putting packets together: more room never makes more packets, room for all makes one, there are never more packets than came.
-/
import Derived.Test.YtklihfjchomkmaaCompB
namespace Go.Proofs.Ytklihfjchomkmaa
open Go.RowKit Go.Proofs.YtklihfjchomkmaaW.PrintWords Go.Proofs.YtklihfjchomkmaaW.PrintLast Go.Proofs.YtklihfjchomkmaaW.PrintMore PFnCompactWider

def Lead (s t : CSt) : Prop := s.acc.length < t.acc.length ∨ (s.acc.length = t.acc.length ∧ s.cur.length ≤ t.cur.length)

theorem lead_step {n m : Int} (h : n ≤ m) (s t : CSt) (p : List Int) (hl : Lead s t) : Lead (stepC m s p) (stepC n t p) := by
  unfold Lead at hl ⊢
  unfold stepC
  by_cases c1 : 0 < s.cur.length ∧ m ≤ (s.cur.length : Int) + p.length
  · rw [if_pos c1]
    by_cases c2 : 0 < t.cur.length ∧ n ≤ (t.cur.length : Int) + p.length
    · rw [if_pos c2]; simp; omega
    · rw [if_neg c2]; simp; omega
  · rw [if_neg c1]
    by_cases c2 : 0 < t.cur.length ∧ n ≤ (t.cur.length : Int) + p.length
    · rw [if_pos c2]; simp; omega
    · rw [if_neg c2]; simp; omega

theorem lead_fold {n m : Int} (h : n ≤ m) : ∀ (l : List (List Int)) (s t : CSt), Lead s t → Lead (l.foldl (stepC m) s) (l.foldl (stepC n) t) := by
  intro l
  induction l with
  | nil => intro s t hl; exact hl
  | cons p l ih => intro s t hl; exact ih _ _ (lead_step h s t p hl)

theorem outC_mono {n m : Int} (h : n ≤ m) (l : List (List Int)) : (outC m l).length ≤ (outC n l).length := by
  unfold outC
  split
  · exact Nat.le_refl _
  · have hl := lead_fold h l ⟨[], []⟩ ⟨[], []⟩ (.inr ⟨rfl, Nat.le_refl _⟩)
    unfold Lead at hl
    unfold runC
    simp
    omega

theorem room_fold (m : Int) : ∀ (l : List (List Int)) (s : CSt), (s.cur.length : Int) + lens l < m → (l.foldl (stepC m) s).acc = s.acc := by
  intro l
  induction l with
  | nil => intro s _; rfl
  | cons p l ih =>
    intro s hs
    have e : lens (p :: l) = p.length + lens l := by simp [lens]
    rw [e] at hs
    have c1 : ¬ (0 < s.cur.length ∧ m ≤ (s.cur.length : Int) + p.length) := by omega
    rw [List.foldl_cons, stepC, if_neg c1, ih]
    simp
    omega

theorem outC_room (m : Int) (l : List (List Int)) (h : (lens l : Int) < m) : (outC m l).length = 1 := by
  unfold outC
  split
  · assumption
  · unfold runC
    rw [room_fold m l _ (by simpa using h)]
    rfl

theorem outC_le (n : Int) (l : List (List Int)) (h : 0 < l.length) : (outC n l).length ≤ l.length := by
  unfold outC
  split
  · exact Nat.le_refl _
  · cases l with
    | nil => simp at h
    | cons p l =>
      have h2 := (foldC_len n l (stepC n ⟨[], []⟩ p)).2
      have h3 : (stepC n ⟨[], []⟩ p).acc.length = 0 := by unfold stepC; rw [if_neg (by simp)]; rfl
      unfold runC
      rw [List.foldl_cons]
      simp
      omega

theorem outC_pos (n : Int) (l : List (List Int)) : 0 < (outC n l).length := by
  unfold outC
  split
  · omega
  · simp

theorem wrap_big (i : Nat) (h : i < 9223372036854775807) : wrap64 ((i : Int) + 1) = ((i + 1 : Nat) : Int) := by unfold wrap64; omega

theorem zz_l0 (l : List ByteArray) (hl : l.length ≤ 9223372036854775807) : ∀ (d k i : Nat), l.length - i = d → i ≤ l.length → d < k →
    ∃ b, laws_zzFits2.l0 k l (l.length : Int) i = some b ∧ (b = true → ∀ s ∈ l.drop i, s.size ≤ 2147483647) := by
  intro d
  induction d with
  | zero =>
    intro k i hd hi hk
    obtain ⟨k, rfl⟩ : ∃ m, k = m + 1 := ⟨k - 1, by omega⟩
    refine ⟨true, by simp only [laws_zzFits2.l0]; rw [if_neg (by omega)], fun _ s hs => ?_⟩
    rw [List.drop_of_length_le (by omega)] at hs
    cases hs
  | succ d ih =>
    intro k i hd hi hk
    obtain ⟨k, rfl⟩ : ∃ m, k = m + 1 := ⟨k - 1, by omega⟩
    have hlt : i < l.length := by omega
    have hr : rdOf ByteArray.empty l i = l[i] := by rw [rdOf, Int.toNat_natCast, List.getD_eq_getElem?_getD, List.getElem?_eq_getElem hlt]; rfl
    simp only [laws_zzFits2.l0]
    rw [if_pos (by omega), if_pos (by omega), if_pos (by omega), hr, wrap_big i (by omega)]
    by_cases hb : (l[i].size : Int) > 2147483647
    · rw [if_pos hb]; exact ⟨false, rfl, fun h => by cases h⟩
    · rw [if_neg hb]
      obtain ⟨b, h1, h2⟩ := ih k (i + 1) (by omega) (by omega) (by omega)
      refine ⟨b, h1, fun hb2 s hs => ?_⟩
      rw [List.drop_eq_getElem_cons hlt] at hs
      rcases List.mem_cons.1 hs with rfl | hs
      · omega
      · exact h2 hb2 s hs

theorem zz_f (l : List ByteArray) (hl : l.length ≤ 9223372036854775807) : ∃ k b, laws_zzFits2.f k l = some b ∧ (b = true → l.length ≤ 2147483647 ∧ ∀ s ∈ l, s.size ≤ 2147483647) := by
  refine ⟨l.length + 1, ?_⟩
  unfold laws_zzFits2.f
  by_cases h : (l.length : Int) > 2147483647
  · rw [if_pos h]; exact ⟨false, rfl, fun h => by cases h⟩
  · rw [if_neg h]
    obtain ⟨b, h1, h2⟩ := zz_l0 l hl l.length (l.length + 1) 0 (by omega) (by omega) (by omega)
    exact ⟨b, h1, fun hb => ⟨by omega, fun s hs => h2 hb s (by simpa using hs)⟩⟩

def sizes (l : List ByteArray) : Nat := (l.map ByteArray.size).sum
theorem sizes_cons (s : ByteArray) (l : List ByteArray) : sizes (s :: l) = s.size + sizes l := by simp [sizes]
theorem sizes_le (l : List ByteArray) (h : ∀ s ∈ l, s.size ≤ 2147483647) : sizes l ≤ l.length * 2147483647 := by
  induction l with
  | nil => simp [sizes]
  | cons s l ih =>
    rw [sizes_cons, List.length_cons, Nat.succ_mul]
    have h1 := h s List.mem_cons_self
    have h2 := ih (fun t ht => h t (List.mem_cons_of_mem _ ht))
    omega

theorem few_l0 (l : List ByteArray) (hl : l.length ≤ 2147483647) (hs : ∀ s ∈ l, s.size ≤ 2147483647) : ∀ (d k i : Nat) (acc : Nat), l.length - i = d → i ≤ l.length → d < k → acc ≤ l.length + i * 2147483647 →
    laws_few.l0 k (acc : Int) l (l.length : Int) i = some (decide (((acc + sizes (l.drop i) : Nat) : Int) < 2000)) := by
  intro d
  induction d with
  | zero =>
    intro k i acc hd hi hk ha
    obtain ⟨k, rfl⟩ : ∃ m, k = m + 1 := ⟨k - 1, by omega⟩
    simp only [laws_few.l0]
    rw [if_neg (by omega), List.drop_of_length_le (by omega)]
    simp [sizes]
  | succ d ih =>
    intro k i acc hd hi hk ha
    obtain ⟨k, rfl⟩ : ∃ m, k = m + 1 := ⟨k - 1, by omega⟩
    have hlt : i < l.length := by omega
    have hr : rdOf ByteArray.empty l i = l[i] := by rw [rdOf, Int.toNat_natCast, List.getD_eq_getElem?_getD, List.getElem?_eq_getElem hlt]; rfl
    have hsz := hs l[i] (List.getElem_mem hlt)
    have hm : i * 2147483647 ≤ 2147483647 * 2147483647 := Nat.mul_le_mul_right _ (by omega)
    have ew : wrap64 ((acc : Int) + (l[i].size : Int)) = ((acc + l[i].size : Nat) : Int) := by unfold wrap64; omega
    simp only [laws_few.l0]
    rw [if_pos (by omega), if_pos (by omega), if_pos (by omega), hr, wrap_big i (by omega), ew, ih k (i + 1) (acc + l[i].size) (by omega) (by omega) (by omega) (by rw [Nat.succ_mul]; omega)]
    rw [List.drop_eq_getElem_cons hlt, sizes_cons]
    congr 3
    omega

theorem few_f (l : List ByteArray) (hl : l.length ≤ 2147483647) (hs : ∀ s ∈ l, s.size ≤ 2147483647) : laws_few.f (l.length + 1) l = some (decide (l.length + sizes l < 2000)) := by
  have h := few_l0 l hl hs l.length (l.length + 1) 0 l.length (by omega) (by omega) (by omega) (by omega)
  unfold laws_few.f
  rw [List.drop_zero] at h
  rw [show ((0 : Nat) : Int) = 0 from rfl] at h
  rw [h]
  congr 2
  simp only [eq_iff_iff]
  omega

end Go.Proofs.Ytklihfjchomkmaa
