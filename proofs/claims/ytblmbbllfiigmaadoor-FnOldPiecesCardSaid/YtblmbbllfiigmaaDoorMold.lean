/-
  FnOldPieces returns true for every input, and each argument reads behind the call as it read before. Conditions: none but the row's own (the listed variables start as the program's text lays them; the card ties that to the text).
-/
import Derived.Test.YtblmbbllfiigmaaDoorMtri
import Derived.Test.YtblmbbllfiigmaaDoorPAllx7
import Derived.Test.YtblmbbllfiigmaaDoorCards
import Derived.Test.YtblmbbllfiigmaaDoorTie
import Derived.Test.YtblmbbllfiigmaaDoorRec
import Derived.WalkKit
import Derived.ProofKit
import Derived.OpenShut
import Derived.ChangeSame
import Derived.Deep.DeepHandedRow
import Derived.ShutString
import Derived.ChangeOld
import Derived.Below
import Derived.SizedLaws
import Derived.Test.YtblmbbllfiigmaaDoorWSized
namespace Go.Proofs.YtblmbbllfiigmaaDoor
open Go.RowKit Go.Proofs.YtblmbbllfiigmaaDoorW.PrintWords Go.Proofs.YtblmbbllfiigmaaDoorW.PrintLast Go.Proofs.YtblmbbllfiigmaaDoorW.PrintMore PAll

theorem cuts_one (b : ByteArray) (hb : b.size ≤ 600) : Cuts (bytesOf b) (max 1 b.size) 1 := by
  refine ⟨by omega, by omega, by rw [bytesOf_length]; omega, by omega, fun i hi => Or.inr (by omega), by rw [bytesOf_length]; omega⟩
/-- Two messages, each in one piece. -/
def twoP (x0 x1 : ByteArray) (h0 : x0.size ≤ 600) (h1 : x1.size ≤ 600) : Msgs :=
  ⟨2, fun k => if k = 0 then bytesOf x0 else bytesOf x1, fun k => if k = 0 then max 1 x0.size else max 1 x1.size, fun _ => 1, by omega,
   fun k _ => by
     by_cases h : k = 0
     · simp only [h, if_true]; exact cuts_one x0 h0
     · simp only [h, if_false]; exact cuts_one x1 h1,
   fun k _ => by
     by_cases h : k = 0
     · simp only [h, if_true]; rw [bytesOf_length]; exact h0
     · simp only [h, if_false]; rw [bytesOf_length]; exact h1,
   fun _ _ => by omega,
   fun k _ => by
     by_cases h : k = 0
     · simp only [h, if_true]; exact bytes_byt x0
     · simp only [h, if_false]; exact bytes_byt x1⟩
theorem frag_whole (q : Nat) (b : ByteArray) : fragOf q (bytesOf b) (max 1 b.size) 0 = ⟨11, b.size, q, 0, bytesOf b⟩ := by
  unfold fragOf chk
  rw [Nat.zero_mul, List.drop_zero, bytesOf_length, List.take_of_length_le (by rw [bytesOf_length]; omega)]

/-- The pieces that come again, a pop behind each. -/
def oldC (B : List Int) (n i : Nat) : List Cmd := [pushC (i + 1) [fragOf 0 B n i], popC]
def oldCs (B : List Int) (n m : Nat) : List Cmd := (List.range m).flatMap (oldC B n)
def oldT (i : Nat) : List S43 := [⟨true, decide (i = 0), false, false, ⟨#[]⟩, 0, 0⟩, ⟨false, false, false, false, ⟨#[]⟩, 0, 0⟩]

theorem pairs_len {α : Type} (f : Nat → List α) (hf : ∀ i, (f i).length = 2) : ∀ m, ((List.range m).flatMap f).length = 2 * m
  | 0 => rfl
  | m + 1 => by
    rw [List.range_succ, List.flatMap_append, List.length_append, pairs_len f hf m]
    simp [hf]
    omega
theorem pairs_get {α : Type} (f : Nat → List α) (hf : ∀ i, (f i).length = 2) : ∀ (m i j : Nat), i < m → j < 2 → ((List.range m).flatMap f)[2 * i + j]? = (f i)[j]?
  | 0, i, j, h, _ => by omega
  | m + 1, i, j, h, hj => by
    have hl := pairs_len f hf m
    rw [List.range_succ, List.flatMap_append]
    by_cases e : i = m
    · subst e
      rw [List.getElem?_append_right (by omega), hl]
      simp
    · rw [List.getElem?_append_left (by omega)]
      exact pairs_get f hf m i j (by omega) hj

theorem told_old {s : St} (h1 : s.cur = 1) (h2 : s.size = 0) {B : List Int} {n m : Nat} (hc : Cuts B n m) (hB : ∀ x ∈ B, 0 ≤ x ∧ x < 256) (hs : B.length ≤ 600) (hpop : CmdOk s popC ∧ stepSt s popC = s ∧ stepTold s popC = ⟨false, false, false, false, ⟨#[]⟩, 0, s.size⟩) {i : Nat} (hi : i < m) :
    RunOk s (oldC B n i) ∧ runSt s (oldC B n i) = s ∧ runTold s (oldC B n i) = oldT i := by
  have hfit := fits_frag hc (q := 0) (by omega) hi
  have hseq : (fragOf 0 B n i).seq < s.cur := by show 0 < s.cur; omega
  have hst : stepSt s (pushC (i + 1) [fragOf 0 B n i]) = s := by
    show stPut 0 s (fragOf 0 B n i) = s
    exact stPut_old 0 s _ hseq
  have hlen := chk_len B n i
  have hrec := rec_ok (i + 1) [fragOf 0 B n i] (by simp) (fun g hg => by
    obtain rfl : g = fragOf 0 B n i := by simpa using hg
    exact ⟨hfit, fun x hx => hB x (List.mem_of_mem_drop (List.mem_of_mem_take hx))⟩) (by
    simp only [List.flatMap_cons, List.flatMap_nil, List.append_nil, enc_len]
    show 12 + (chk B n i).length ≤ 60000
    omega)
  have hok : CmdOk s (pushC (i + 1) [fragOf 0 B n i]) := ⟨by omega, by omega, by omega, fun _ => ⟨hrec, ⟨⟨hfit, fun hn => absurd hseq hn⟩, trivial⟩⟩, fun hp => by cases hp⟩
  have hag : againOf s.cur [fragOf 0 B n i] = decide (i = 0) := by
    have hn := hc.n1
    have e : (i * n = 0) ↔ i = 0 := by
      constructor
      · intro h
        rcases Nat.mul_eq_zero.1 h with h | h
        · exact h
        · omega
      · rintro rfl; simp
    show (decide (i * n = 0) && decide (0 < s.cur)) = decide (i = 0)
    rw [h1]
    simp [e]
  have htold : stepTold s (pushC (i + 1) [fragOf 0 B n i]) = ⟨true, decide (i = 0), false, false, ⟨#[]⟩, 0, 0⟩ := by
    unfold stepTold
    rw [hst, h2]
    simp only [pushC, if_true]
    rw [hag]
  refine ⟨⟨hok, by rw [hst]; exact ⟨hpop.1, trivial⟩⟩, ?_, ?_⟩
  · show stepSt (stepSt s (pushC (i + 1) [fragOf 0 B n i])) popC = s
    rw [hst, hpop.2.1]
  · unfold oldC oldT
    simp only [runTold]
    rw [htold, hst, hpop.2.2, h2]
theorem told_olds {s : St} (h1 : s.cur = 1) (h2 : s.size = 0) {B : List Int} {n m : Nat} (hc : Cuts B n m) (hB : ∀ x ∈ B, 0 ≤ x ∧ x < 256) (hs : B.length ≤ 600) (hpop : CmdOk s popC ∧ stepSt s popC = s ∧ stepTold s popC = ⟨false, false, false, false, ⟨#[]⟩, 0, s.size⟩) :
    ∀ k, k ≤ m → RunOk s (oldCs B n k) ∧ runSt s (oldCs B n k) = s ∧ runTold s (oldCs B n k) = (List.range k).flatMap oldT
  | 0, _ => ⟨trivial, rfl, rfl⟩
  | k + 1, hk => by
    obtain ⟨a, b, c⟩ := told_olds h1 h2 hc hB hs hpop k (by omega)
    obtain ⟨d, e, f⟩ := told_old h1 h2 hc hB hs hpop (i := k) (by omega)
    have e1 : oldCs B n (k + 1) = oldCs B n k ++ oldC B n k := by
      unfold oldCs
      rw [List.range_succ, List.flatMap_append]
      simp
    rw [e1, run_ok_app, run_st_app, run_told_app, b, e, c, f, List.range_succ, List.flatMap_append]
    refine ⟨⟨a, d⟩, rfl, by simp⟩

/-- The whole script. -/
def oldScript (P : Msgs) (B : List Int) (n m : Nat) : List Cmd := [pushC 0 (P.frs [(0, 0)]), popC] ++ oldCs B n m ++ [pushC 99 (P.frs [(1, 0)]), popC]

theorem empty_ms {P : Msgs} {s : St} {r : Nat → Nat → Bool} (h : Kn P s r) (hno : ∀ k, s.cur ≤ k → k < P.N → ∀ i, i < P.m k → r k i = false) : s.size = 0 := by
  have : s.ms = [] := by
    cases hm : s.ms with
    | nil => rfl
    | cons p l =>
      obtain ⟨h1, h2, _, i, hi, h3⟩ := h.is p (by rw [hm]; simp)
      rw [hno p.1 h1 h2 i hi] at h3
      cases h3
  rw [h.size, this]
  rfl

theorem old_told (x0 x1 : ByteArray) (n m : Nat) (h0 : x0.size ≤ 600) (h1 : x1.size ≤ 600) (hc : Cuts (bytesOf x0) n m) :
    RunOk st0 (oldScript (twoP x0 x1 h0 h1) (bytesOf x0) n m) ∧ ∃ a b : S43, runTold st0 (oldScript (twoP x0 x1 h0 h1) (bytesOf x0) n m) = [a, ⟨false, false, false, true, (twoP x0 x1 h0 h1).whole 0, 0, 0⟩] ++ (List.range m).flatMap oldT ++ [b, ⟨false, false, false, true, (twoP x0 x1 h0 h1).whole 1, 0, 0⟩] := by
  obtain ⟨P, hP⟩ : ∃ P, P = twoP x0 x1 h0 h1 := ⟨_, rfl⟩
  have hN : P.N = 2 := by rw [hP]; rfl
  have hm : ∀ k, P.m k = 1 := fun k => by rw [hP]; rfl
  rw [← hP]
  have ok0 : P.ok [(0, 0)] := fun p hp => by
    obtain rfl : p = (0, 0) := by simpa using hp
    exact ⟨by rw [hN]; decide, by rw [hm]; decide⟩
  have ok1 : P.ok [(1, 0)] := fun p hp => by
    obtain rfl : p = (1, 0) := by simpa using hp
    exact ⟨by rw [hN]; decide, by rw [hm]; decide⟩
  have len : ∀ q, q < P.N → ((P.frs [(q, 0)]).flatMap enc).length ≤ 60000 := fun q hq => by
    have := frag_len P (i := 0) hq
    simp only [Msgs.frs, List.map_cons, List.map_nil, List.flatMap_cons, List.flatMap_nil, List.append_nil]
    omega
  -- the first message
  obtain ⟨c1, k1⟩ := (kn_zero P).push 0 ok0 (by simp) (len 0 (by omega))
  obtain ⟨sA, hsA⟩ : ∃ sA, sA = stepSt st0 (pushC 0 (P.frs [(0, 0)])) := ⟨_, rfl⟩
  rw [← hsA] at k1
  have curA : sA.cur = 0 := by rw [hsA]; exact puts_cur 0 _ st0
  have rA : ∀ k i, comes (fun _ _ => false) [((0 : Nat), (0 : Nat))] k i = true ↔ (k, i) = (0, 0) := fun k i => by rw [comes, came]; simp
  obtain ⟨c2, k2, cur2, t2⟩ := k1.popped (by rw [curA, hN]; decide) (fun i hi => by
    rw [hm] at hi
    obtain rfl : i = 0 := by omega
    rw [curA]
    exact (rA 0 0).2 rfl)
  obtain ⟨sB, hsB⟩ : ∃ sB, sB = stepSt sA popC := ⟨_, rfl⟩
  rw [← hsB] at k2 cur2 t2
  rw [curA] at cur2 t2
  have r1 : ∀ k i, 1 ≤ k → comes (fun _ _ => false) [((0 : Nat), (0 : Nat))] k i = false := fun k i hk => by
    cases h : comes (fun _ _ => false) [((0 : Nat), (0 : Nat))] k i with
    | false => rfl
    | true =>
      have := (rA k i).1 h
      injection this with a b
      omega
  have sizeB : sB.size = 0 := empty_ms k2 (fun k hk _ i _ => r1 k i (by omega))
  have popB := k2.stays (Or.inr ⟨0, by rw [hm]; decide, r1 _ _ (by omega)⟩)
  have curB : sB.cur = 1 := by omega
  -- the pieces that come again
  obtain ⟨c3, s3, t3⟩ := told_olds curB sizeB hc (bytes_byt x0) (by rw [bytesOf_length]; exact h0) popB m (Nat.le_refl m)
  -- the second message
  obtain ⟨c4, k4⟩ := k2.push 99 ok1 (by simp) (len 1 (by omega))
  obtain ⟨sC, hsC⟩ : ∃ sC, sC = stepSt sB (pushC 99 (P.frs [(1, 0)])) := ⟨_, rfl⟩
  rw [← hsC] at k4
  have curC : sC.cur = 1 := by rw [hsC]; exact (puts_cur 0 _ sB).trans curB
  obtain ⟨c5, k5, cur5, t5⟩ := k4.popped (by rw [curC, hN]; decide) (fun i hi => by
    rw [hm] at hi
    obtain rfl : i = 0 := by omega
    rw [curC, comes, came]
    exact Or.inr (by simp))
  have size5 : (stepSt sC popC).size = 0 := empty_ms k5 (fun k hk hk2 i _ => by omega)
  rw [size5, curC] at t5
  rw [sizeB] at t2
  unfold oldScript
  rw [run_ok_app, run_ok_app, run_told_app, run_told_app, run_st_app]
  have e1 : runSt st0 [pushC 0 (P.frs [(0, 0)]), popC] = sB := by rw [hsB, hsA]; rfl
  rw [e1, s3, t3]
  refine ⟨⟨⟨⟨c1, by rw [← hsA]; exact ⟨c2, trivial⟩⟩, c3⟩, c4, by rw [← hsC]; exact ⟨c5, trivial⟩⟩, stepTold st0 (pushC 0 (P.frs [(0, 0)])), stepTold sB (pushC 99 (P.frs [(1, 0)])), ?_⟩
  simp only [runTold]
  rw [← hsA, ← hsC, t2, t5]

theorem rd43_at (l : List S43) (i : Nat) (x : S43) (h : l[i]? = some x) : rd_T43 l (i : Int) = x := by
  rw [rd_T43, Int.toNat_natCast, List.getD_eq_getElem?_getD, h]
  rfl

/-- The checks behind the script. -/
theorem old_check (x1 : ByteArray) (m : Nat) (hm : m ≤ 1000) (a0 a1 b0 : S43) (w : ByteArray) (hw : Ev (fun k => laws_whole.f k 11 1 x1) w) (told : List S43) (ht : told = [a0, a1] ++ (List.range m).flatMap oldT ++ [b0, ⟨false, false, false, true, w, 0, 0⟩]) :
    ∀ (d i : Nat), i + d = m → Ev (fun k => laws_FnOldPieces.l1 k x1 told (m : Int) (i : Int)) true := by
  have hpl := pairs_len oldT (fun _ => rfl) m
  have hlen : told.length = 2 * m + 4 := by rw [ht]; simp [hpl]
  intro d
  induction d with
  | zero =>
    intro i h
    have hi : i = m := by omega
    subst hi
    have ei : wrap64 ((told.length : Int) - 1) = ((2 * i + 3 : Nat) : Int) := by rw [w64_small _ (by omega) (by omega)]; omega
    have hget : told[2 * i + 3]? = some ⟨false, false, false, true, w, 0, 0⟩ := by
      rw [ht, List.getElem?_append_right (by simp [hpl])]
      have : 2 * i + 3 - ([a0, a1] ++ (List.range i).flatMap oldT).length = 1 := by simp [hpl]
      rw [this]
      rfl
    refine Ev.step (G := fun k => (laws_whole.f k 11 1 x1).bind fun t228 => (if w.toList = t228.toList then (some ((0 : Int) == 0)) else (none))) ?_ (fun k => ?_)
    · exact Ev.bind hw (Ev.ite rfl (Ev.const _))
    · rw [laws_FnOldPieces.l1, if_neg (by omega), ei, if_pos (by omega), if_pos (by omega), rd43_at _ _ _ hget, if_pos rfl]
  | succ d ih =>
    intro i h
    have hih := ih (i + 1) (by omega)
    have e2 : wrap64 (2 + wrap64 (2 * (i : Int))) = ((2 * i + 2 : Nat) : Int) := by rw [w64_small (2 * (i : Int)) (by omega) (by omega), w64_small _ (by omega) (by omega)]; omega
    have e3 : wrap64 (3 + wrap64 (2 * (i : Int))) = ((2 * i + 3 : Nat) : Int) := by rw [w64_small (2 * (i : Int)) (by omega) (by omega), w64_small _ (by omega) (by omega)]; omega
    have get : ∀ j, j < 2 → told[2 * i + (2 + j)]? = (oldT i)[j]? := fun j hj => by
      rw [ht, List.append_assoc, List.getElem?_append_right (by simp; omega)]
      have : 2 * i + (2 + j) - [a0, a1].length = 2 * i + j := by simp; omega
      rw [this, List.getElem?_append_left (by omega), pairs_get oldT (fun _ => rfl) m i j (by omega) hj]
    have g2 : rd_T43 told ((2 * i + 2 : Nat) : Int) = ⟨true, decide (i = 0), false, false, ⟨#[]⟩, 0, 0⟩ := rd43_at _ _ _ (get 0 (by omega))
    have g3 : rd_T43 told ((2 * i + 3 : Nat) : Int) = ⟨false, false, false, false, ⟨#[]⟩, 0, 0⟩ := rd43_at _ _ _ (get 1 (by omega))
    refine Ev.step hih (fun k => ?_)
    rw [laws_FnOldPieces.l1, if_pos (by omega), e2, e3, if_pos (by omega), if_pos (by omega), if_pos (by omega), if_pos (by omega), g2, g3]
    have eb : ((i : Int) == 0) = decide (i = 0) := by
      by_cases e : i = 0
      · subst e; rfl
      · have : ((i : Int) == 0) = false := by simp; omega
        rw [this]; simp [e]
    have e5 : ((decide (i = 0)) != ((i : Int) == 0)) = false := by rw [eb]; simp
    simp only [e5, Bool.false_eq_true, if_false, if_true]
    rw [w64_succ _ (by omega)]

theorem old_loop (x0 x1 : ByteArray) (n m : Nat) (hm : m ≤ 1000) (hc : Cuts (bytesOf x0) n m) (h0 : x0.size ≤ 600) (h1 : x1.size ≤ 600) :
    ∀ (d i : Nat), i + d = m → Ev (fun k => laws_FnOldPieces.l0 k x0 x1 (([pushC 0 ((twoP x0 x1 h0 h1).frs [(0, 0)]), popC] ++ oldCs (bytesOf x0) n i).map stepOf) ((List.range m).map (pieceT 0 x0 n)) ((List.range m).map (pieceT 0 x0 n)) (m : Int) (i : Int)) true
  | 0, i, h => by
    have hi : i = m := by omega
    subst hi
    obtain ⟨P, hP⟩ : ∃ P, P = twoP x0 x1 h0 h1 := ⟨_, rfl⟩
    have hwh : ∀ k x, (twoP x0 x1 h0 h1).B k = bytesOf x → (twoP x0 x1 h0 h1).whole k = strOfNums (enc ⟨11, x.size, k, 0, bytesOf x⟩) := fun k x hx => by unfold Msgs.whole; rw [hx, bytesOf_length]
    have hw0 : Ev (fun k => laws_whole.f k 11 0 x0) ((twoP x0 x1 h0 h1).whole 0) := by rw [hwh 0 x0 rfl]; exact whole_ev 11 0 x0 (by omega) (by omega)
    have hw1 : Ev (fun k => laws_whole.f k 11 1 x1) ((twoP x0 x1 h0 h1).whole 1) := by rw [hwh 1 x1 rfl]; exact whole_ev 11 1 x1 (by omega) (by omega)
    have e1 : (twoP x0 x1 h0 h1).whole 1 = strOfNums (enc ((twoP x0 x1 h0 h1).fr 1 0)) := by
      rw [hwh 1 x1 rfl]
      have : (twoP x0 x1 h0 h1).fr 1 0 = ⟨11, x1.size, 1, 0, bytesOf x1⟩ := frag_whole 1 x1
      rw [this]
    have hrec : Ev (fun k => laws_record.f k 99 ((twoP x0 x1 h0 h1).whole 1)) (pushC 99 ((twoP x0 x1 h0 h1).frs [(1, 0)])).data := by
      rw [e1]
      exact rec_piece (twoP x0 x1 h0 h1) (1, 0) (by show 1 < 2; omega) 99 (by omega)
    have hpops : Ev (fun k => laws_pops.f k [(pushC 99 ((twoP x0 x1 h0 h1).frs [(1, 0)])).data] 1) ([pushC 99 ((twoP x0 x1 h0 h1).frs [(1, 0)]), popC].map stepOf) := pops_ev [(pushC 99 ((twoP x0 x1 h0 h1).frs [(1, 0)])).data] 1 (by simp) (by omega)
    obtain ⟨hrun, a, b, htold⟩ := old_told x0 x1 n i h0 h1 hc
    have hplc : (oldCs (bytesOf x0) n i).length = 2 * i := pairs_len (oldC (bytesOf x0) n) (fun _ => rfl) i
    have hslen : (oldScript (twoP x0 x1 h0 h1) (bytesOf x0) n i).length = 2 * i + 4 := by
      unfold oldScript
      simp [hplc]
    have hsays : ∀ c ∈ oldScript (twoP x0 x1 h0 h1) (bytesOf x0) n i, Says c := fun c hcm => by
      have hfr : ∀ q, q < 2 → ∀ g ∈ (twoP x0 x1 h0 h1).frs [(q, 0)], FitsF g ∧ ∀ x ∈ g.dat, 0 ≤ x ∧ x < 256 := fun q hq => (twoP x0 x1 h0 h1).frs_ok (fun p hp => by
        obtain rfl : p = (q, 0) := by simpa using hp
        exact ⟨hq, by show 0 < 1; omega⟩)
      unfold oldScript at hcm
      rcases List.mem_append.1 hcm with hcm | hcm
      · rcases List.mem_append.1 hcm with hcm | hcm
        · simp only [List.mem_cons, List.not_mem_nil, or_false] at hcm
          rcases hcm with rfl | rfl
          · exact says_push 0 _ (hfr 0 (by omega))
          · exact says_pop
        · obtain ⟨j, hj, hcm⟩ := List.mem_flatMap.1 hcm
          have hj : j < i := by simpa using hj
          simp only [oldC, List.mem_cons, List.not_mem_nil, or_false] at hcm
          rcases hcm with rfl | rfl
          · refine says_push (j + 1) _ (fun g hg => ?_)
            obtain rfl : g = fragOf 0 (bytesOf x0) n j := by simpa using hg
            exact ⟨fits_frag hc (by omega) hj, fun x hx => bytes_byt x0 x (List.mem_of_mem_drop (List.mem_of_mem_take hx))⟩
          · exact says_pop
      · simp only [List.mem_cons, List.not_mem_nil, or_false] at hcm
        rcases hcm with rfl | rfl
        · exact says_push 99 _ (hfr 1 (by omega))
        · exact says_pop
    have hgiven := given_ev hsays (by omega) hrun
    have hcheck := old_check x1 i hm a ⟨false, false, false, true, (twoP x0 x1 h0 h1).whole 0, 0, 0⟩ b _ hw1 _ htold i 0 (by omega)
    have htl : (runTold st0 (oldScript (twoP x0 x1 h0 h1) (bytesOf x0) n i)).length = 2 * i + 4 := by rw [runTold_len, hslen]
    have hg1 : rd_T43 (runTold st0 (oldScript (twoP x0 x1 h0 h1) (bytesOf x0) n i)) 1 = ⟨false, false, false, true, (twoP x0 x1 h0 h1).whole 0, 0, 0⟩ := rd43_at _ 1 _ (by rw [htold]; rfl)
    have hcat : ([pushC 0 ((twoP x0 x1 h0 h1).frs [(0, 0)]), popC] ++ oldCs (bytesOf x0) n i).map stepOf ++ [pushC 99 ((twoP x0 x1 h0 h1).frs [(1, 0)]), popC].map stepOf = (oldScript (twoP x0 x1 h0 h1) (bytesOf x0) n i).map stepOf := by
      unfold oldScript
      rw [← List.map_append]
    refine Ev.step (G := fun k => (laws_whole.f k 11 1 x1).bind fun t205 => ((laws_record.f k 99 t205).bind fun t206 => ((laws_pops.f k (([t206] : List ByteArray)) 1).bind fun t210 => (if (([pushC 0 ((twoP x0 x1 h0 h1).frs [(0, 0)]), popC] ++ oldCs (bytesOf x0) n i).map stepOf).length + t210.length < 5864062014805 then ((some ((([pushC 0 ((twoP x0 x1 h0 h1).frs [(0, 0)]), popC] ++ oldCs (bytesOf x0) n i).map stepOf) ++ t210 : List (S40))).bind fun y213 => ((impl_Fragments.f k y213).bind fun t216 => (if (t216.length : Int) = (y213.length : Int) then (if 1 < (t216.length : Int) then (if ((rd_T43 t216 1).f3 = true) then ((laws_whole.f k 11 0 x0).bind fun t221 => (laws_FnOldPieces.j2 k x1 ((List.range i).map (pieceT 0 x0 n)) t216 (((rd_T43 t216 1).f4).toList != t221.toList))) else (laws_FnOldPieces.j2 k x1 ((List.range i).map (pieceT 0 x0 n)) t216 true)) else (none)) else (laws_FnOldPieces.j2 k x1 ((List.range i).map (pieceT 0 x0 n)) t216 true)))) else (none))))) ?_ (fun k => by rw [laws_FnOldPieces.l0, if_neg (by omega)])
    refine Ev.bind hw1 (Ev.bind hrec (Ev.bind hpops (Ev.ite (by simp [hplc]; omega) ?_)))
    simp only [Option.bind_some]
    rw [hcat]
    refine Ev.bind hgiven (Ev.ite (by rw [htl, List.length_map, hslen]) (Ev.ite (by omega) ?_))
    rw [hg1]
    refine Ev.ite rfl (Ev.bind hw0 ?_)
    have eb : (((twoP x0 x1 h0 h1).whole 0).toList != ((twoP x0 x1 h0 h1).whole 0).toList) = false := by simp
    simp only [eb]
    refine Ev.step (G := fun k => laws_FnOldPieces.l1 k x1 (runTold st0 (oldScript (twoP x0 x1 h0 h1) (bytesOf x0) n i)) (i : Int) 0) hcheck (fun k => ?_)
    rw [laws_FnOldPieces.j2, if_neg (by simp), List.length_map, List.length_range]
  | d + 1, i, h => by
    have ih := old_loop x0 x1 n m hm hc h0 h1 d (i + 1) (by omega)
    have hplc : (oldCs (bytesOf x0) n i).length = 2 * i := pairs_len (oldC (bytesOf x0) n) (fun _ => rfl) i
    have hget : ((List.range m).map (pieceT 0 x0 n))[i]? = some (pieceT 0 x0 n i) := by
      rw [List.getElem?_map, List.getElem?_range (by omega)]
      rfl
    have hfl := chk_len (bytesOf x0) n i
    have hlb := bytesOf_length x0
    have hrec : Ev (fun k => laws_record.f k ((i + 1 : Nat) : Int) (pieceT 0 x0 n i)) (pushC (i + 1) [fragOf 0 (bytesOf x0) n i]).data := by
      have h2 := rec_ev (i + 1) (enc (fragOf 0 (bytesOf x0) n i)) (by omega) (by
        rw [enc_len]
        show 12 + (chk (bytesOf x0) n i).length ≤ 100000
        omega)
      refine h2.eq ?_
      simp [pushC]
    have e1 : oldCs (bytesOf x0) n (i + 1) = oldCs (bytesOf x0) n i ++ oldC (bytesOf x0) n i := by
      unfold oldCs
      rw [List.range_succ, List.flatMap_append]
      simp
    have e2 : ([pushC 0 ((twoP x0 x1 h0 h1).frs [(0, 0)]), popC] ++ oldCs (bytesOf x0) n (i + 1)).map stepOf = (([pushC 0 ((twoP x0 x1 h0 h1).frs [(0, 0)]), popC] ++ oldCs (bytesOf x0) n i).map stepOf) ++ [⟨true, (pushC (i + 1) [fragOf 0 (bytesOf x0) n i]).data⟩, ⟨false, ⟨#[]⟩⟩] := by
      rw [e1, ← List.append_assoc, List.map_append]
      rfl
    rw [e2] at ih
    refine Ev.step (G := fun k => (laws_record.f k ((i + 1 : Nat) : Int) (pieceT 0 x0 n i)).bind fun t198 => ((some (([(⟨true, t198⟩ : S40), (⟨false, (⟨#[]⟩ : ByteArray)⟩ : S40)] : List (S40)) : List (S40))).bind fun y199 => (if (([pushC 0 ((twoP x0 x1 h0 h1).frs [(0, 0)]), popC] ++ oldCs (bytesOf x0) n i).map stepOf).length + y199.length < 5864062014805 then (laws_FnOldPieces.l0 k x0 x1 ((([pushC 0 ((twoP x0 x1 h0 h1).frs [(0, 0)]), popC] ++ oldCs (bytesOf x0) n i).map stepOf) ++ y199) ((List.range m).map (pieceT 0 x0 n)) ((List.range m).map (pieceT 0 x0 n)) (m : Int) ((i + 1 : Nat) : Int)) else (none)))) ?_ (fun k => ?_)
    · refine Ev.bind hrec ?_
      simp only [Option.bind_some]
      exact Ev.ite (by simp [hplc]; omega) ih
    · rw [laws_FnOldPieces.l0, if_pos (by omega), if_pos (by omega), if_pos (by rw [List.length_map, List.length_range]; omega), rdOf_at _ _ _ _ hget, w64_succ _ (by omega)]

theorem old_true (a0 a1 : ByteArray) (a2 : Int) : Ev (fun k => laws_FnOldPieces.f k a0 a1 a2) true := by
  have hout : Ev (fun k => laws_FnOldPieces.j0 k a0 a1 a2 true) true := Ev.step (G := fun _ => some true) (Ev.const _) (fun k => by rw [laws_FnOldPieces.j0, if_pos rfl])
  unfold laws_FnOldPieces.f
  by_cases c1 : (a0.size : Int) > 2147483647
  · exact Ev.ite c1 hout
  refine Ev.els c1 ?_
  by_cases c2 : (a1.size : Int) > 2147483647
  · rw [decide_eq_true c2]; exact hout
  rw [decide_eq_false c2]
  obtain ⟨r, hl, hr⟩ := light_ev [a0, a1] a2 (by simp) (fun b hb => by
    simp only [List.mem_cons, List.not_mem_nil, or_false] at hb
    rcases hb with rfl | rfl <;> omega)
  refine Ev.step (G := fun k => (laws_light.f k (([a0, a1] : List ByteArray)) a2).bind fun t185 => (if t185 = true then ((laws_whole.f k 11 0 a0).bind fun t186 => ((laws_record.f k 0 t186).bind fun t187 => ((laws_pops.f k (([t187] : List ByteArray)) 1).bind fun t191 => ((laws_cutting.f k 11 0 a0 a2).bind fun t194 => (laws_FnOldPieces.l0 k a0 a1 t191 t194 t194 (t194.length : Int) 0))))) else (some true))) ?_ (fun k => by rw [laws_FnOldPieces.j0, if_neg (by simp)])
  refine Ev.bind hl ?_
  cases r with
  | false => exact Ev.els (by simp) (Ev.const _)
  | true =>
    obtain ⟨_, _, hs, h1, h2, h8⟩ := hr rfl
    have es : sizes [a0, a1] = a0.size + a1.size := by simp [sizes]
    rw [es] at hs h8
    obtain ⟨n, rfl⟩ : ∃ n : Nat, a2 = (n : Int) := ⟨a2.toNat, by omega⟩
    have hfew := cnt_few a0.size n (by omega) (by omega) (by omega)
    have hcut := cuts_of a0 n (by omega) (by omega) (by omega)
    obtain ⟨m, hm⟩ : ∃ m, m = cntOf a0.size n := ⟨_, rfl⟩
    rw [← hm] at hfew hcut
    have s0 : a0.size ≤ 600 := by omega
    have s1 : a1.size ≤ 600 := by omega
    have hwh : (twoP a0 a1 s0 s1).whole 0 = strOfNums (enc ⟨11, a0.size, 0, 0, bytesOf a0⟩) := by
      unfold Msgs.whole
      show strOfNums (enc ⟨11, (bytesOf a0).length, 0, 0, bytesOf a0⟩) = _
      rw [bytesOf_length]
    have hw0 : Ev (fun k => laws_whole.f k 11 0 a0) ((twoP a0 a1 s0 s1).whole 0) := by rw [hwh]; exact whole_ev 11 0 a0 (by omega) (by omega)
    have e1 : (twoP a0 a1 s0 s1).whole 0 = strOfNums (enc ((twoP a0 a1 s0 s1).fr 0 0)) := by
      rw [hwh]
      have : (twoP a0 a1 s0 s1).fr 0 0 = ⟨11, a0.size, 0, 0, bytesOf a0⟩ := frag_whole 0 a0
      rw [this]
    have hrec : Ev (fun k => laws_record.f k 0 ((twoP a0 a1 s0 s1).whole 0)) (pushC 0 ((twoP a0 a1 s0 s1).frs [(0, 0)])).data := by
      rw [e1]
      exact rec_piece (twoP a0 a1 s0 s1) (0, 0) (by show 0 < 2; omega) 0 (by omega)
    have hpops : Ev (fun k => laws_pops.f k [(pushC 0 ((twoP a0 a1 s0 s1).frs [(0, 0)])).data] 1) ([pushC 0 ((twoP a0 a1 s0 s1).frs [(0, 0)]), popC].map stepOf) := pops_ev [(pushC 0 ((twoP a0 a1 s0 s1).frs [(0, 0)])).data] 1 (by simp) (by omega)
    have hcutev : Ev (fun k => laws_cutting.f k 11 0 a0 (n : Int)) ((List.range m).map (pieceT 0 a0 n)) := cut_ev 0 a0 n m (by omega) (by omega) (by omega) hcut
    have hloop := old_loop a0 a1 n m (by omega) hcut s0 s1 m 0 (by omega)
    refine Ev.ite rfl (Ev.bind hw0 (Ev.bind hrec (Ev.bind hpops (Ev.bind hcutev ?_))))
    rw [List.length_map, List.length_range]
    exact hloop

end Go.Proofs.YtblmbbllfiigmaaDoor

namespace Go.Proofs.YtblmbbllfiigmaaDoor
open Go.ChangeShapes Go.WideShapes Go.ChangeAt Go.RowKit

theorem trod_u8 {H : Type} {enc : TypeId × Value → H} {P : Program} {w : World} {base : Nat} {sp : Nat → Bool} {held : Bool} {t : TypeId} {fuel : Nat} {cs : List Value} {n : Int} {p : List MemPlace}
    (ht : P.underlying t = some (.int .u8)) (h : DataW.trod enc P w base sp held fuel t cs = some (.lit (.int .u8 n), p)) : cs = [.int .u8 n] := by
  cases fuel with
  | zero => simp [DataW.trod] at h
  | succ fuel =>
    unfold DataW.trod at h
    rw [ht] at h
    split at h <;> simp_all

theorem gV0 : Tryd.prog.globalNamed "pub-tandemry/pub/dtls/pkg/protocol.Version1_0" = some 4 := by kernel_rfl
theorem gV2 : Tryd.prog.globalNamed "pub-tandemry/pub/dtls/pkg/protocol.Version1_2" = some 5 := by kernel_rfl
theorem gV0t : (Tryd.prog.globals[4]?).map (·.type) = some 89 := by kernel_rfl
theorem gV2t : (Tryd.prog.globals[5]?).map (·.type) = some 89 := by kernel_rfl
theorem cells5 : Tryd.prog.cellsOf 5 = 1 := by kernel_rfl
theorem cells89 : Tryd.prog.cellsOf 89 = 2 := by kernel_rfl

set_option maxRecDepth 100000 in
theorem ver_cells {W : World} {fuel : Nat} {cs : Array Value} {p : List MemPlace} {a b : Int} (h : DataW.trod (fun _ => ()) Tryd.prog W 0 (fun _ => true) false fuel 89 cs.toList = some (.agg [.lit (.int .u8 a), .lit (.int .u8 b)], p)) :
    cs[0]? = some (.int .u8 a) ∧ cs[1]? = some (.int .u8 b) := by
  obtain ⟨y0, y1, n, hx, hl, h0, h1⟩ := trod_struct2 Tryd.underlying89 h
  rw [cells89] at hl
  obtain ⟨y0d, y0p⟩ := y0
  obtain ⟨y1d, y1p⟩ := y1
  simp only [Prod.mk.injEq, DataW.agg.injEq, List.cons.injEq, and_true] at hx
  obtain ⟨⟨e0, e1⟩, _⟩ := hx
  rw [← e0] at h0
  rw [← e1] at h1
  have h0 := trod_u8 Tryd.underlying5 h0
  have h1 := trod_u8 Tryd.underlying5 h1
  rw [cells5] at h0 h1
  obtain ⟨l⟩ := cs
  match l, hl with
  | [u, v], _ =>
    simp at h0 h1
    simp [h0, h1]

set_option maxRecDepth 100000 in
theorem laid_gl {W : World} (h : laidMetH Tryd.prog Rows.fnDoubledPiecesRow.laid W) : GL W := by
  have h : laidMet Tryd.prog Rows.fnDoubledPiecesRow.laid W := h
  obtain ⟨ps, hv, _, _⟩ := h
  obtain ⟨g, t, cs, fuel, p, q, hg, ht, hc, htr, hrest, _⟩ := hv
  obtain ⟨g2, t2, cs2, fuel2, p2, q2, hg2, ht2, hc2, htr2, _, _⟩ := hrest
  obtain rfl := Option.some.inj (gV0.symm.trans hg)
  obtain rfl := Option.some.inj (gV2.symm.trans hg2)
  obtain rfl := Option.some.inj (gV0t.symm.trans ht)
  obtain rfl := Option.some.inj (gV2t.symm.trans ht2)
  obtain ⟨a0, a1⟩ := ver_cells htr
  obtain ⟨b0, b1⟩ := ver_cells htr2
  exact ⟨(World.var?_cell gV0 hc 0).trans a0, (World.var?_cell gV0 hc 1).trans a1, (World.var?_cell gV2 hc2 0).trans b0, (World.var?_cell gV2 hc2 1).trans b1⟩

theorem own : ownKnob Tryd.prog.godebug = none := by kernel_rfl

abbrev smallS : ByteArray := { data := #[98, 117, 102, 102, 101, 114, 32, 105, 115, 32, 116, 111, 111, 32, 115, 109, 97, 108, 108] }
abbrev unsupS : ByteArray := { data := #[117, 110, 115, 117, 112, 112, 111, 114, 116, 101, 100, 32, 112, 114, 111, 116, 111, 99, 111, 108, 32, 118, 101, 114, 115, 105, 111, 110] }
abbrev overS : ByteArray := { data := #[102, 114, 97, 103, 109, 101, 110, 116, 32, 98, 117, 102, 102, 101, 114, 32, 111, 118, 101, 114, 102, 108, 111, 119] }
noncomputable abbrev low : Nat := (World.holding Tryd.prog default ⟨#[], #[], []⟩).heap.size
/-- The witness: the settled world with five errors more, the seven variables holding what their initialisers lay. -/
noncomputable def laidWorld (os : Os) : World :=
  let w0 := World.holding Tryd.prog os ⟨#[.cells #[.string overS] 146, .cells #[.string smallS] 146, .cells #[.string smallS] 146, .cells #[.string unsupS] 146, .cells #[.string smallS] 146], #[], []⟩
  let put (h : Array Obj) (g : Nat) (cs : Array Value) : Array Obj := h.modify g fun
    | .cells _ t frozen => .cells cs t frozen
    | o => o
  let h1 := put w0.heap 0 #[.iface 130 (.pointer (some ⟨low, 0, none⟩))]
  let h2 := put h1 1 #[.iface 130 (.pointer (some ⟨low + 1, 0, none⟩))]
  let h3 := put h2 2 #[.iface 130 (.pointer (some ⟨low + 2, 0, none⟩))]
  let h4 := put h3 6 #[.iface 130 (.pointer (some ⟨low + 3, 0, none⟩))]
  let h5 := put h4 7 #[.iface 130 (.pointer (some ⟨low + 4, 0, none⟩))]
  let h6 := put h5 4 #[.int .u8 254, .int .u8 255]
  let h7 := put h6 5 #[.int .u8 254, .int .u8 253]
  { w0 with heap := h7 }
set_option maxRecDepth 1000000 in
theorem laid_met (os : Os) (args : Array Value) : laidMet Tryd.prog Rows.fnDoubledPiecesRow.laid ((laidWorld os).forCall (fun _ _ => 0) ⟨#[], args, []⟩).memory :=
  laidMet_of_run' 8 (by kernel_rfl) (by kernel_rfl)

end Go.Proofs.YtblmbbllfiigmaaDoor

namespace Go.Proofs.YtblmbbllfiigmaaDoor.fnOldPieces
open Go.ChangeShapes Go.WideShapes Go.ChangeAt Go.RowKit Go.Proofs.YtblmbbllfiigmaaDoorW
open Go.ChangeMaps (open_string shut_string)

theorem laidOut : laidOutB Tryd.prog = true := by kernel_rfl
theorem walk (a0 a1 : ByteArray) (a2 : Int) (w : World) (hgl : GL w) :
    Calls Tryd.prog 5 #[.string a0, .string a1, .int .i64 a2] w fun e w' => e = .returned (.bool true) ∧ Below w.heap.size w w' := by
  obtain ⟨k, h⟩ := (old_true a0 a1 a2).get
  exact PAll.laws_FnOldPieces.calls k a0 a1 a2 true w h hgl

theorem reads (os : Os) {H : Type} (enc : TypeId × Value → H) : ∃ places, DataW.whole enc Tryd.prog ((laidWorld os).forCall (fun _ _ => 0) ⟨#[], #[.string ByteArray.empty, .string ByteArray.empty, .int .i64 0], []⟩).memory Tryd.f5.params.toList Rows.fnOldPiecesSpec.vars false #[Value.string ByteArray.empty, .string ByteArray.empty, .int .i64 0].toList 8 = some ([.lit (.string []), .lit (.string []), .lit (.int .i64 0)], [], places) :=
  ⟨[], by kernel_rfl⟩

set_option maxRecDepth 1000000 in
theorem lifted (os : Os) (started : os.Started) (H : Type) (enc : TypeId × Value → H) (F : Stop.Interp) :
    ReturnsInHanded {} Tryd.checked os 5 .any ((OpenSpec.ofChange Rows.fnOldPiecesSpec).preRow enc Tryd.prog Tryd.f5 Rows.fnOldPiecesRow.domain false Rows.fnOldPiecesRow.laid) (((OpenSpec.ofChange Rows.fnOldPiecesSpec).at F).post enc Tryd.prog Tryd.f5 false true false false) := by
  obtain ⟨places, hx⟩ := reads os enc
  refine returnsInHanded_of_row (C := Tryd.checked) (s := OpenSpec.ofChange Rows.fnOldPiecesSpec) own started (by kernel_rfl) Tryd.func5
    (witness_row_at (enc := enc) (C := Tryd.checked) false (laidWorld os) #[.string ByteArray.empty, .string ByteArray.empty, .int .i64 0] rfl (by kernel_rfl) (by kernel_rfl) (by kernel_rfl)
      (OpenSpec.preRow_of_cond 8 hx (by kernel_rfl) (fun k hk => by cases hk) (by kernel_rfl) (laid_met os _))) ?_
  intro W base args ds gs before hval0 hW _ _ _ hL _ _
  have hgl := laid_gl hL
  clear hL
  have hval : ∀ (j : Nat) t v, Tryd.f5.params[j]? = some t → args[j]? = some v → Value.okWide Tryd.prog W .any base t v := hval0
  have hW' := hW
  obtain ⟨p, q, hA0, hV, rfl, hfz, hnd⟩ := hW
  have hA : DataW.TrodAll enc Tryd.prog W 0 (fun _ => true) true Tryd.f5.params.toList args.toList ds p := hA0
  rw [Tryd.params5] at hA hval
  obtain ⟨v0, vs0, d0, ds0, p0, q0, hargs, rfl, rfl, h0, r0⟩ := trodAll_cons hA
  obtain ⟨v1, vs1, d1, ds1, p1, q1, rfl, rfl, rfl, h1, r1⟩ := trodAll_cons r0
  obtain ⟨v2, vs2, d2, ds2, p2, q2, rfl, rfl, rfl, h2, r2⟩ := trodAll_cons r1
  obtain ⟨rfl, rfl, rfl⟩ := trodAll_nil r2
  obtain rfl : args = #[v0, v1, v2] := by cases args; simp_all
  obtain ⟨rfl, rfl⟩ := trodVars_none hV
  obtain ⟨a0, rfl, rfl, rfl, y0⟩ := open_string Tryd.underlying9 (hval 0 9 v0 rfl rfl) h0
  obtain ⟨a1, rfl, rfl, rfl, y1⟩ := open_string Tryd.underlying9 (hval 1 9 v1 rfl rfl) h1
  obtain ⟨a2, rfl, rfl, rfl, w2⟩ := open_int Tryd.underlying3 (hval 2 3 v2 rfl rfl) h2
  clear hA0 hval0
  refine (walk a0 a1 a2 W hgl).mono fun e W' ⟨he, bel⟩ => ?_
  subst he
  exact ⟨_, rfl, _, _, _, [], _, [], hW', trodAll_mk1 (shut_bool Tryd.underlying4 _), (trodAll_cons_mk (shut_string Tryd.underlying9 y0) (trodAll_cons_mk (shut_string Tryd.underlying9 y1) (trodAll_cons_mk (shut_int Tryd.underlying3 w2) trodAll_mk0))), rfl, bel.frame _, fun h => by cases h⟩

theorem said : Rows.FnOldPiecesSaid :=
  OpenClaim.holds_of_cond 5 Tryd.f5 rfl rfl rfl rfl rfl rfl rfl ⟨rfl, rfl, rfl, rfl, rfl⟩ rfl rfl rfl rfl rfl (by kernel_rfl) Tryd.func5 (by kernel_rfl)
    (of_decide_eq_true (by kernel_rfl)) (by unfold Func.isWrapper; first | (rw [if_pos (by decide +kernel)]; kernel_rfl) | (rw [if_neg (by decide +kernel)]; exact ⟨rfl, rfl⟩))
    (fun os started H enc _ F => by rw [OpenClaim.pre_eq_preRow]; exact lifted os started H enc F)

theorem plain (f : FuncId) (fn : Func) (hf : Tryd.pinned.checked.prog.funcNamed "pub-tandemry/laws.FnOldPieces" = some f) (hfn : Tryd.pinned.checked.prog.funcs[f]? = some fn) :
    false = Tryd.pinned.checked.prog.looks [] ∧ ∀ (j : Nat) t, fn.params[j]? = some t → Tryd.pinned.checked.prog.wantsStandIn t = false := by
  obtain rfl : f = 5 := Option.some.inj ((show Tryd.prog.funcNamed "pub-tandemry/laws.FnOldPieces" = some 5 by kernel_rfl).symm.trans hf) |>.symm
  obtain rfl : fn = Tryd.f5 := (Option.some.inj (Tryd.func5.symm.trans hfn)).symm
  refine ⟨by kernel_rfl, fun j t ht => ?_⟩
  rw [Tryd.params5] at ht
  have h : t = 9 ∨ t = 3 := by
    have h := Array.mem_of_getElem? ht
    simp at h
    omega
  rcases h with rfl | rfl
  · exact (show Tryd.prog.wantsStandIn 9 = false by kernel_rfl)
  · exact (show Tryd.prog.wantsStandIn 3 = false by kernel_rfl)

theorem card : Rows.FnOldPiecesCardSaid :=
  Claim7.holds_tied_plain_at .later [] _ _ _ _ said (fun _ h => by cases h) (by kernel_rfl) (fun _ h => by cases h) fnOldPieces_row_tie rfl ⟨rfl, rfl⟩ (by kernel_rfl) rfl plain (by kernel_rfl)
end Go.Proofs.YtblmbbllfiigmaaDoor.fnOldPieces
namespace Go.Proofs.YtblmbbllfiigmaaDoor
/-- The card, under a short name, for the claim. -/
theorem fnOldPieces_holds : Rows.FnOldPiecesCardSaid := fnOldPieces.card
#print axioms fnOldPieces_holds
end Go.Proofs.YtblmbbllfiigmaaDoor
