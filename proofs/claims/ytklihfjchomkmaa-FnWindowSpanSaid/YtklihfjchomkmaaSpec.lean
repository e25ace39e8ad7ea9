/-
  Plain laws: what the reference's Replay tells is what a detector that keeps the set of what was taken tells.
-/
import Derived.Test.YtklihfjchomkmaaWin
namespace Go.Proofs.Ytklihfjchomkmaa
open Go.RowKit Go.Proofs.YtklihfjchomkmaaW.PrintWords Go.Proofs.YtklihfjchomkmaaW.PrintLast Go.Proofs.YtklihfjchomkmaaW.PrintMore PFnWindow

theorem wrap_one (i : Nat) (h : i < 1000000) : wrap64 ((i : Int) + 1) = ((i + 1 : Nat) : Int) := by unfold wrap64; omega

theorem has_l0 (n : Int) (l : List Int) (hl : l.length < 1000000) : ∀ (d k i : Nat), l.length - i = d → i ≤ l.length → d < k → spec_hasNumber.l0 k l n i = some ((l.drop i).contains n) := by
  intro d
  induction d with
  | zero =>
    intro k i hd hi hk
    obtain ⟨k, rfl⟩ : ∃ m, k = m + 1 := ⟨k - 1, by omega⟩
    simp only [spec_hasNumber.l0]
    rw [if_neg (by omega), List.drop_of_length_le (by omega)]
    rfl
  | succ d ih =>
    intro k i hd hi hk
    obtain ⟨k, rfl⟩ : ∃ m, k = m + 1 := ⟨k - 1, by omega⟩
    have hlt : i < l.length := by omega
    have hr : rd l i = l[i] := by rw [rd, Int.toNat_natCast, List.getD_eq_getElem?_getD, List.getElem?_eq_getElem hlt]; rfl
    simp only [spec_hasNumber.l0]
    rw [if_pos (by omega), if_pos (by omega), hr, List.drop_eq_getElem_cons hlt]
    by_cases e : l[i] = n
    · rw [if_pos e]; simp [e]
    · have e2 : ¬ n = l[i] := fun h => e h.symm
      have e3 : (n == l[i]) = false := by simpa using e2
      rw [if_neg e, wrap_one i (by omega), ih k (i + 1) (by omega) (by omega) (by omega), List.contains_cons, e3, Bool.false_or]

theorem has_f (n : Int) (l : List Int) (hl : l.length < 1000000) (k : Nat) (hk : l.length < k) : spec_hasNumber.f k l n = some (l.contains n) := by
  have h := has_l0 n l hl l.length k 0 (by omega) (by omega) hk
  simpa [spec_hasNumber.f] using h

theorem contains_snoc (tk : List Int) (a x : Int) : (tk ++ [a]).contains x = (x == a || tk.contains x) := by
  rw [Bool.eq_iff_iff]
  simp [or_comm]

theorem wrap_id {x : Int} (h : U64 x) : IntKind.u64.wrap x = x := by
  have h1 := h.1
  have h2 := h.2
  rw [IntKind.wrap_u64]; omega

theorem spec_l0 (win most : Int) (hw : 0 ≤ win) (hw2 : win ≤ 500) (l2 : List Int) (l3 : List Bool) (hl : l2.length = l3.length) (hlen : l2.length ≤ 300) (hU : U64L l2) :
    ∀ (d k i : Nat) (tk : List Int) (g : Int) (out : List Bool), l2.length - i = d → i ≤ l2.length → tk.length ≤ i → out.length ≤ i → U64 g → tk.length + 2 * d + 1 < k →
      spec_Replay.l0 k win most l2 l3 tk g out i = some (out ++ tellA most win g (fun x => tk.contains x) ((l2.zip l3).drop i)) := by
  intro d
  induction d with
  | zero =>
    intro k i tk g out hd hi ht ho hg hk
    obtain ⟨k, rfl⟩ : ∃ m, k = m + 1 := ⟨k - 1, by omega⟩
    simp only [spec_Replay.l0]
    rw [if_neg (by omega), List.drop_of_length_le (by rw [List.length_zip]; omega)]
    simp [tellA]
  | succ d ih =>
    intro k i tk g out hd hi ht ho hg hk
    obtain ⟨k, rfl⟩ : ∃ m, k = m + 1 := ⟨k - 1, by omega⟩
    have hlt : i < l2.length := by omega
    have hz : i < (l2.zip l3).length := by rw [List.length_zip]; omega
    have hr : rd l2 i = l2[i] := by rw [rd, Int.toNat_natCast, List.getD_eq_getElem?_getD, List.getElem?_eq_getElem hlt]; rfl
    have hr3 : rdOf false l3 i = l3[i] := by rw [rdOf, Int.toNat_natCast, List.getD_eq_getElem?_getD, List.getElem?_eq_getElem (show i < l3.length by omega)]; rfl
    have hn : U64 l2[i] := hU _ (List.getElem_mem hlt)
    have hn0 := hn.1
    have hn1 := hn.2
    have hg0 := hg.1
    have hg1 := hg.2
    rw [List.drop_eq_getElem_cons hz, List.getElem_zip, tellA_cons]
    simp only [spec_Replay.l0]
    rw [if_pos (show ((i : Int) < (l2.length : Int)) by omega), if_pos (show (0 : Int) ≤ (i : Int) by omega), hr, hr3, has_f _ tk (by omega) k (by omega), wrap_one i (by omega)]
    simp only [Option.bind_some]
    have o1 : out.length < 140737488355328 := by omega
    have o2 : tk.length < 17592186044416 := by omega
    have o3 : (i : Int) < (l3.length : Int) := by omega
    simp only [if_pos o1, if_pos o2, if_pos o3]
    have no := ih k (i + 1) tk g (out ++ [false]) (by omega) (by omega) (by omega) (by simp; omega) hg (by omega)
    have yes := ih k (i + 1) tk g (out ++ [true]) (by omega) (by omega) (by omega) (by simp; omega) hg (by omega)
    have hmx : mx g l2[i] = max g l2[i] := by unfold mx; omega
    have took := ih k (i + 1) (tk ++ [l2[i]]) (max g l2[i]) (out ++ [true]) (by omega) (by omega) (by simp; omega) (by simp; omega) ⟨by omega, by omega⟩ (by simp; omega)
    have ef : (fun x => (tk ++ [l2[i]]).contains x) = fun x => x == l2[i] || tk.contains x := by
      funext x
      exact contains_snoc tk l2[i] x
    rw [ef] at took
    rw [hmx]
    by_cases h1 : l2[i] ≤ most
    · rw [if_pos h1]
      by_cases h2 : g < l2[i]
      · rw [if_pos (show l2[i] > g from h2)]
        cases h3 : tk.contains l2[i]
        · have hf : freshA most win g (fun x => tk.contains x) l2[i] = true := by unfold freshA; dsimp only; rw [h3]; simp [h1, h2]
          rw [hf]
          cases h4 : l3[i]
          · simp only [Bool.not_false, Bool.false_eq_true, if_false, if_true, yes, List.append_assoc, List.singleton_append]
          · simp only [Bool.not_false, Bool.false_eq_true, if_false, if_true, took, List.append_assoc, List.singleton_append]
        · have hf : freshA most win g (fun x => tk.contains x) l2[i] = false := by unfold freshA; dsimp only; rw [h3]; simp
          rw [hf]
          simp only [Bool.not_true, Bool.false_eq_true, if_false, if_true, no, List.append_assoc, List.singleton_append]
      · rw [if_neg (show ¬ l2[i] > g from h2), wrap_id (x := g - l2[i]) ⟨by omega, by omega⟩, wrap_id (x := win) ⟨hw, by omega⟩]
        by_cases h5 : g - l2[i] < win
        · rw [if_pos h5]
          cases h3 : tk.contains l2[i]
          · have hf : freshA most win g (fun x => tk.contains x) l2[i] = true := by unfold freshA; dsimp only; rw [h3]; simp [h1, h5]
            rw [hf]
            cases h4 : l3[i]
            · simp only [Bool.not_false, Bool.false_eq_true, if_false, if_true, yes, List.append_assoc, List.singleton_append]
            · simp only [Bool.not_false, Bool.false_eq_true, if_false, if_true, took, List.append_assoc, List.singleton_append]
          · have hf : freshA most win g (fun x => tk.contains x) l2[i] = false := by unfold freshA; dsimp only; rw [h3]; simp
            rw [hf]
            simp only [Bool.not_true, Bool.false_eq_true, if_false, if_true, no, List.append_assoc, List.singleton_append]
        · have hf : freshA most win g (fun x => tk.contains x) l2[i] = false := by unfold freshA; simp only [h2, h5, decide_false, Bool.or_false, Bool.and_false, Bool.false_and]
          rw [if_neg h5, hf]
          simp only [Bool.false_eq_true, if_false, no, List.append_assoc, List.singleton_append]
    · have hf : freshA most win g (fun x => tk.contains x) l2[i] = false := by unfold freshA; simp only [h1, decide_false, Bool.false_and]
      rw [if_neg h1, hf]
      simp only [Bool.false_eq_true, if_false, no, List.append_assoc, List.singleton_append]

theorem spec_f (win most : Int) (hw : 0 ≤ win) (hw2 : win ≤ 500) (l2 : List Int) (l3 : List Bool) (hl : l2.length = l3.length) (hlen : l2.length ≤ 300) (hU : U64L l2) :
    spec_Replay.f 1000 win most l2 l3 = some (tellA most win 0 (fun _ => false) (l2.zip l3)) := by
  have h := spec_l0 win most hw hw2 l2 l3 hl hlen hU l2.length 1000 0 [] 0 [] (by omega) (by omega) (by simp) (by simp) U64.zero (by simp; omega)
  simpa [spec_Replay.f] using h

end Go.Proofs.Ytklihfjchomkmaa
