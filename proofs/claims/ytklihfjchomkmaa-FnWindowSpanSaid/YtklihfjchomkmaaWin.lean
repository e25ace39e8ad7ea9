/-
  Plain laws of the replay window: a detector that keeps a mask tells of numbers what one that keeps the set of what was taken tells; what the reference tells; what such a detector tells in the statements' cases.
-/
import Derived.Test.YtklihfjchomkmaaReplay
namespace Go.Proofs.Ytklihfjchomkmaa
open Go.RowKit Go.Proofs.YtklihfjchomkmaaW.PrintWords Go.Proofs.YtklihfjchomkmaaW.PrintLast Go.Proofs.YtklihfjchomkmaaW.PrintMore

/-- a detector that keeps what was taken: the greatest number, the set, what was told -/
structure ASt where
  g : Int
  tk : Int → Bool
  out : List Bool

def freshA (most win g : Int) (tk : Int → Bool) (n : Int) : Bool := decide (n ≤ most) && (decide (g < n) || decide (g - n < win)) && !tk n
def stepA (most win : Int) (s : ASt) (p : Int × Bool) : ASt :=
  if freshA most win s.g s.tk p.1 then (if p.2 then ⟨max s.g p.1, fun x => x == p.1 || s.tk x, s.out ++ [true]⟩ else ⟨s.g, s.tk, s.out ++ [true]⟩) else ⟨s.g, s.tk, s.out ++ [false]⟩
def startA : ASt := ⟨0, fun _ => false, []⟩
def runA (most win : Int) (ps : List (Int × Bool)) : ASt := ps.foldl (stepA most win) startA

structure Sim (most win : Int) (d : DSt) (a : ASt) : Prop where
  g : d.g = a.g
  out : d.out = a.out
  ok : U64L d.xs
  len : (d.xs.length : Int) = (win + 63) / 64
  g0 : 0 ≤ a.g
  tk : ∀ x, a.tk x = true → 0 ≤ x ∧ x ≤ a.g
  bits : ∀ j, 0 ≤ j → j < win → mb d.xs j = (decide (j ≤ a.g) && a.tk (a.g - j))

theorem Sim.fresh {most win : Int} {d : DSt} {a : ASt} (h : Sim most win d a) (n : Int) (h0 : 0 ≤ n) : freshD d.g most win d.xs n = freshA most win a.g a.tk n := by
  unfold freshD freshA
  rw [h.g]
  by_cases h1 : a.g < n
  · have h2 : a.tk n = false := by
      cases e : a.tk n
      · rfl
      · have := (h.tk n e).2; omega
    simp [h1, h2]
  · by_cases h3 : a.g - n < win
    · rw [h.bits (a.g - n) (by omega) h3]
      have h4 : decide (a.g - n ≤ a.g) = true := by simp only [decide_eq_true_eq]; omega
      have h5 : a.g - (a.g - n) = n := by omega
      rw [h4, h5]
      simp [h1, h3]
    · simp [h1, h3]

theorem Sim.step {most win : Int} {d : DSt} {a : ASt} (h : Sim most win d a) (p : Int × Bool) (h0 : 0 ≤ p.1) (hw : 1 ≤ win) (hm : win % 64 ≤ 32) : Sim most win (stepD most win d p) (stepA most win a p) := by
  obtain ⟨n, acc⟩ := p
  simp only at h0
  unfold stepD stepA
  simp only
  rw [h.fresh n h0]
  cases hf : freshA most win a.g a.tk n
  · simp only [Bool.false_eq_true, if_false]
    exact ⟨h.g, by rw [h.out], h.ok, h.len, h.g0, h.tk, h.bits⟩
  · simp only [if_true]
    cases acc
    · simp only [Bool.false_eq_true, if_false]
      exact ⟨h.g, by rw [h.out], h.ok, h.len, h.g0, h.tk, h.bits⟩
    · simp only [if_true]
      simp only [freshA, Bool.and_eq_true, Bool.or_eq_true, decide_eq_true_eq, Bool.not_eq_true'] at hf
      obtain ⟨⟨_, hf2⟩, hf3⟩ := hf
      by_cases hg : a.g < n
      · have hg' : d.g < n := by rw [h.g]; exact hg
        have emax : max a.g n = n := by omega
        refine ⟨?_, by rw [h.out], ?_, ?_, ?_, ?_, ?_⟩
        · simp only [takeG]; rw [if_pos hg', emax]
        · simp only [takeL]; rw [if_pos hg']; exact setB_ok (lshL_ok h.ok _ _) _
        · simp only [takeL]; rw [if_pos hg', setB_length, lshL_length]; exact h.len
        · simp only; omega
        · intro x hx
          simp only [Bool.or_eq_true, beq_iff_eq] at hx ⊢
          rcases hx with rfl | hx
          · omega
          · have := h.tk x hx; omega
        · intro j hj0 hj1
          simp only [takeL]
          have hlen := h.len
          rw [if_pos hg', emax, mb_setB (lshL_ok h.ok _ _) 0 j (by omega) (by rw [lshL_length]; omega) hj0, mb_lshL h.ok win _ j hw hm h.len (by omega) hj0 hj1, h.g]
          by_cases hd : n - a.g ≤ j
          · have e1 : ¬ j = 0 := by omega
            have e2 : ¬ n - j = n := by omega
            rw [h.bits _ (by omega) (by omega)]
            have e3 : a.g - (j - (n - a.g)) = n - j := by omega
            have e4 : decide (j - (n - a.g) ≤ a.g) = decide (j ≤ n) := by
              by_cases e : j ≤ n
              · simp only [e, decide_true, decide_eq_true_eq]; omega
              · simp only [e, decide_false, decide_eq_false_iff_not]; omega
            rw [e3, e4]
            have e5 : (n - j == n) = false := by simpa using e2
            simp [hd, e1, e5]
          · by_cases e1 : j = 0
            · subst e1
              simp; omega
            · have e2 : (n - j == n) = false := by
                have : ¬ n - j = n := by omega
                simpa using this
              have e3 : a.tk (n - j) = false := by
                cases e : a.tk (n - j)
                · rfl
                · have := (h.tk _ e).2; omega
              simp [hd, e1, e2, e3]
      · have hg' : ¬ d.g < n := by rw [h.g]; exact hg
        have emax : max a.g n = a.g := by omega
        have hlen := h.len
        refine ⟨?_, by rw [h.out], ?_, ?_, ?_, ?_, ?_⟩
        · simp only [takeG]; rw [if_neg hg', emax]; exact h.g
        · simp only [takeL]; rw [if_neg hg']; exact setB_ok h.ok _
        · simp only [takeL]; rw [if_neg hg', setB_length]; exact h.len
        · simp only; have := h.g0; omega
        · intro x hx
          simp only [Bool.or_eq_true, beq_iff_eq] at hx ⊢
          rcases hx with rfl | hx
          · omega
          · have := h.tk x hx; omega
        · intro j hj0 hj1
          simp only [takeL]
          have hb := h.bits j hj0 hj1
          rw [if_neg hg', emax, h.g, mb_setB h.ok (a.g - n) j (by omega) (by omega) hj0, hb]
          by_cases e : j = a.g - n
          · subst e
            have e1 : a.g - (a.g - n) = n := by omega
            rw [e1]
            simp; omega
          · have e1 : (a.g - j == n) = false := by
              have : ¬ a.g - j = n := by omega
              simpa using this
            simp [e, e1]

theorem Sim.start {most win : Int} (hw : 1 ≤ win) : Sim most win ⟨0, List.replicate ((win + 63) / 64).toNat 0, []⟩ startA := by
  refine ⟨rfl, rfl, ?_, ?_, Int.le_refl _, ?_, ?_⟩
  · intro x hx
    rw [List.mem_replicate] at hx
    rw [hx.2]; exact U64.zero
  · rw [List.length_replicate]; omega
  · intro x hx; simp [startA] at hx
  · intro j hj0 hj1
    have e : at0 (List.replicate ((win + 63) / 64).toNat 0) (j / 64) = 0 := by
      unfold at0
      rw [List.getD_eq_getElem?_getD, List.getElem?_replicate]
      split <;> rfl
    unfold mb
    rw [e]
    simp [tb, startA]

theorem Sim.run {most win : Int} (hw : 1 ≤ win) (hm : win % 64 ≤ 32) (ps : List (Int × Bool)) (hp : ∀ p ∈ ps, 0 ≤ p.1) : Sim most win (runD most win ps) (runA most win ps) := by
  have key : ∀ (ps : List (Int × Bool)) (d : DSt) (a : ASt), (∀ p ∈ ps, 0 ≤ p.1) → Sim most win d a → Sim most win (ps.foldl (stepD most win) d) (ps.foldl (stepA most win) a) := by
    intro ps
    induction ps with
    | nil => intro d a _ h; exact h
    | cons p ps ih =>
      intro d a hp h
      rw [List.foldl_cons, List.foldl_cons]
      exact ih _ _ (fun q hq => hp q (List.mem_cons_of_mem _ hq)) (h.step p (hp p List.mem_cons_self) hw hm)
  exact key ps _ _ hp (Sim.start hw)

/-- what a detector that keeps what was taken tells from a state on -/
def tellA (most win : Int) : Int → (Int → Bool) → List (Int × Bool) → List Bool
  | _, _, [] => []
  | g, tk, (n, acc) :: r => if freshA most win g tk n then true :: (if acc then tellA most win (max g n) (fun x => x == n || tk x) r else tellA most win g tk r) else false :: tellA most win g tk r

theorem tellA_cons (most win g : Int) (tk : Int → Bool) (n : Int) (acc : Bool) (r : List (Int × Bool)) : tellA most win g tk ((n, acc) :: r) =
    if freshA most win g tk n then true :: (if acc then tellA most win (max g n) (fun x => x == n || tk x) r else tellA most win g tk r) else false :: tellA most win g tk r := rfl

theorem foldA (most win : Int) : ∀ (ps : List (Int × Bool)) (s : ASt), (ps.foldl (stepA most win) s).out = s.out ++ tellA most win s.g s.tk ps := by
  intro ps
  induction ps with
  | nil => intro s; simp [tellA]
  | cons p ps ih =>
    intro s
    obtain ⟨n, acc⟩ := p
    rw [List.foldl_cons, ih]
    rw [tellA_cons]
    unfold stepA
    simp only
    cases freshA most win s.g s.tk n
    · simp
    · cases acc <;> simp

theorem runD_tell (most win : Int) (hw : 1 ≤ win) (hm : win % 64 ≤ 32) (ps : List (Int × Bool)) (hp : ∀ p ∈ ps, 0 ≤ p.1) : (runD most win ps).out = tellA most win 0 (fun _ => false) ps := by
  rw [(Sim.run hw hm ps hp).out, runA, foldA]
  simp [startA]

end Go.Proofs.Ytklihfjchomkmaa
