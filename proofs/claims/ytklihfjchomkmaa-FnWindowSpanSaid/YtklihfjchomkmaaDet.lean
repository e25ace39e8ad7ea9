/-
  The replay detector's mask, walked: Bit, SetBit, Lsh, newFixedBigInt do to memory what the plain laws say of lists.
-/
import Derived.Test.YtklihfjchomkmaaRows
import Derived.Test.YtklihfjchomkmaaMask
import Derived.Test.YtklihfjchomkmaaWWords
import Derived.WalkKit
import Derived.WalkSpells
import Derived.WalkLawsBesides
import Derived.StillTailTactics
import Derived.Lib.Hide
namespace Go.Proofs.Ytklihfjchomkmaa
open Go.RowKit Go.Proofs.YtklihfjchomkmaaW.PrintWords

theorem cellB {w : World} {B : Nat} {e : TypeId} {l : List Value} (h : w.heap[B]? = some (.cells l.toArray e)) (j : Nat) : w.cell? ⟨B, j, none⟩ = l[j]? := by
  simp [World.cell?, h]
theorem frozB {w : World} {B : Nat} {e : TypeId} {l : Array Value} (h : w.heap[B]? = some (.cells l e)) (j : Nat) : w.frozen? ⟨B, j, none⟩ = false := by
  simp [World.frozen?, h]
theorem ltB {w : World} {B : Nat} {o : Obj} (h : w.heap[B]? = some o) : B < w.heap.size := (Array.getElem?_eq_some_iff.1 h).1
theorem cellN {w : World} {B : Nat} {e : TypeId} {xs : List Int} (h : w.heap[B]? = some (.cells (nums .u64 xs).toArray e)) (j : Int) (h0 : 0 ≤ j) (h1 : j < xs.length) : w.cell? ⟨B, j.toNat, none⟩ = some (.int .u64 (at0 xs j)) := by
  have hj : j.toNat < xs.length := by omega
  rw [cellB h, nums, List.getElem?_map, List.getElem?_eq_getElem hj, at0, List.getD_eq_getElem?_getD, List.getElem?_eq_getElem hj]; rfl
theorem setN {w : World} {B : Nat} {e : TypeId} {xs : List Int} (h : w.heap[B]? = some (.cells (nums .u64 xs).toArray e)) (j : Nat) (v : Int) : (w.setCell ⟨B, j, none⟩ (.int .u64 v)).heap[B]? = some (.cells (nums .u64 (xs.set j v)).toArray e) := by
  simp [World.setCell, Array.getElem?_modify, h, nums, List.map_set, Array.setIfInBounds]
  intro hj
  rw [List.set_eq_of_length_le (by simpa using hj)]
theorem grB (w : World) (B j : Nat) (v : Value) : w.grownBy (w.setCell ⟨B, j, none⟩ v) (some B) :=
  ⟨rfl, rfl, rfl, by simp [World.setCell], fun k hk hne => Below.heap_setCell w ⟨B, j, none⟩ v k (by simpa using hne)⟩

theorem grDrew (w : World) (row : Option Nat) : w.grownBy w.drew row := ⟨rfl, rfl, rfl, Nat.le_refl _, fun _ _ _ => rfl⟩

/-- The mask lies in two blocks. -/
structure MaskAt (w : World) (M B : Nat) (win : Int) (xs : List Int) : Prop where
  m : w.heap[M]? = some (.cells [.slice (some ⟨B, 0, none⟩) xs.length xs.length, .int .u64 win, .int .u64 (mskV win)].toArray 84)
  b : w.heap[B]? = some (.cells (nums .u64 xs).toArray 26)
  ok : U64L xs
  len : (xs.length : Int) = (win + 63) / 64
  lo : 1 ≤ win
  hi : win ≤ 500
  md : win % 64 ≤ 32

theorem MaskAt.ne {w : World} {M B : Nat} {win : Int} {xs : List Int} (h : MaskAt w M B win xs) : M ≠ B := by
  rintro rfl
  have h1 := h.m.symm.trans h.b
  injection h1 with h1
  injection h1 with _ h2
  exact absurd h2 (by decide)

/-- Whatever leaves both blocks alone leaves the mask. -/
theorem MaskAt.move {w w' : World} {M B : Nat} {win : Int} {xs : List Int} (h : MaskAt w M B win xs) (hM : w'.heap[M]? = w.heap[M]?) (hB : w'.heap[B]? = w.heap[B]?) : MaskAt w' M B win xs :=
  ⟨hM.trans h.m, hB.trans h.b, h.ok, h.len, h.lo, h.hi, h.md⟩
/-- The words alone have been written. -/
theorem MaskAt.words {w w' : World} {M B : Nat} {win : Int} {xs ys : List Int} (h : MaskAt w M B win xs) (hg : w.grownBy w' (some B)) (hB : w'.heap[B]? = some (.cells (nums .u64 ys).toArray 26)) (hl : ys.length = xs.length) (ho : U64L ys) : MaskAt w' M B win ys :=
  ⟨by rw [hg.block M (ltB h.m) (by simp only [ne_eq, Option.some.injEq]; exact h.ne), hl]; exact h.m, hB, ho, by rw [hl]; exact h.len, h.lo, h.hi, h.md⟩

def bitOf (b : Bool) : Int := if b then 1 else 0

set_option maxHeartbeats 400000 in
theorem bit_in (M B : Nat) (win i : Int) (xs : List Int) (w : World) (hm : MaskAt w M B win xs) (h0 : 0 ≤ i) (hi : i < win) :
    Calls Try.prog 48 #[.pointer (some ⟨M, 0, none⟩), .int .u64 i] w fun e w' => e = .returned (.int .u64 (bitOf (mb xs i))) ∧ w = w' := by
  have hw := hm.hi
  have hn : i / 64 < (xs.length : Int) := by have := hm.len; omega
  have h00 := cellB hm.m 0
  have h1 := cellB hm.m 1
  simp only [List.getElem?_cons_zero, List.getElem?_cons_succ] at h00 h1
  have hx := cellN hm.b (i / 64) (by omega) hn
  have hb : Hid ((bits .and .u64 (at0 xs (i / 64)) (IntKind.u64.wrap (2 ^ (i % 64).toNat)) != 0) = mb xs i) := and_tb _ _ (at0_ok hm.ok _) (by omega) (by omega)
  clear hm
  go_enter Try.func48, Try.ntmps48
  go_wp2
  all_goals go_ret
  · refine ⟨?_, rfl⟩
    rename_i h
    have h2 : mb xs i = true := by rw [← hb.out]; exact h
    rw [h2]; rfl
  · refine ⟨?_, rfl⟩
    rename_i h
    have h2 : mb xs i = false := by rw [← hb.out]; exact h
    rw [h2]; rfl

set_option maxHeartbeats 400000 in
theorem setbit_in (M B : Nat) (win i : Int) (xs : List Int) (w : World) (hm : MaskAt w M B win xs) (h0 : 0 ≤ i) (hi : i < win) :
    Calls Try.prog 50 #[.pointer (some ⟨M, 0, none⟩), .int .u64 i] w fun e w' => e = .returned (.tuple #[]) ∧ MaskAt w' M B win (setB xs i) ∧ w.grownBy w' (some B) := by
  have hw := hm.hi
  have hn : i / 64 < (xs.length : Int) := by have := hm.len; omega
  have h00 := cellB hm.m 0
  have h1 := cellB hm.m 1
  simp only [List.getElem?_cons_zero, List.getElem?_cons_succ] at h00 h1
  have hx := cellN hm.b (i / 64) (by omega) hn
  have hf := frozB hm.b (i / 64).toNat
  have HM := Lib.hid hm
  clear hm
  go_enter Try.func50, Try.ntmps50
  go_wp2
  go_end0
  exact ⟨rfl, HM.out.words (grB _ _ _ _) (setN HM.out.b _ _) (setB_length _ _) (setB_ok HM.out.ok _), grB _ _ _ _⟩

/-- Some words behind a shift are done. -/
structure LshRel (xs : List Int) (d : Int) (B : Nat) (w wr : World) (k : Nat) : Prop where
  row : wr.heap[B]? = some (.cells (nums .u64 (xs.take k ++ (shlL xs d).drop k)).toArray 26)
  gr : w.grownBy wr (some B)

theorem LshRel.cell {xs : List Int} {d : Int} {B : Nat} {w wr : World} {k : Nat} (h : LshRel xs d B w wr k) (hk : k ≤ xs.length) (j : Int) (h0 : 0 ≤ j) (hj : j < k) : wr.cell? ⟨B, j.toNat, none⟩ = some (.int .u64 (at0 xs j)) := by
  rw [cellN h.row j h0 (by rw [List.length_append, List.length_take, List.length_drop, shlL_length]; omega)]
  congr 2
  unfold at0
  rw [List.getD_eq_getElem?_getD, List.getD_eq_getElem?_getD, List.getElem?_append_left (by rw [List.length_take]; omega), List.getElem?_take, if_pos (by omega)]

theorem LshRel.step {xs : List Int} {d : Int} {B : Nat} {w wr : World} {c : Nat} (h : LshRel xs d B w wr (c + 1)) (hc : c < xs.length) : LshRel xs d B w (wr.setCell ⟨B, c, none⟩ (.int .u64 (shlV xs d c))).drew c := by
  refine ⟨?_, World.grownBy.trans h.gr (World.grownBy.trans (grB _ _ _ _) (grDrew _ _))⟩
  show (wr.setCell ⟨B, c, none⟩ (.int .u64 (shlV xs d c))).heap[B]? = _
  rw [setN h.row]
  congr 4
  have hl : c < (shlL xs d).length := by rw [shlL_length]; exact hc
  have e : (shlL xs d)[c] = shlV xs d c := by simp [shlL]
  rw [List.drop_eq_getElem_cons hl, e, List.take_succ_eq_append_getElem hc, List.append_assoc, List.set_append_right _ _ (by rw [List.length_take]; omega)]
  have : c - (xs.take c).length = 0 := by rw [List.length_take]; omega
  rw [this]
  rfl

theorem run_shl (x d : Int) (h0 : 0 ≤ d) (w : World) : (Op.shift BinOp.shl IntKind.u64 x IntKind.u64 d).run Try.prog w = .ok (.int .u64 (IntKind.u64.wrap (x * 2 ^ (min d.toNat 64)))) w := by
  unfold Op.shift
  rw [if_neg (by omega)]
  rfl

set_option maxRecDepth 100000 in
set_option maxHeartbeats 1000000 in
theorem lsh_go (M B : Nat) (win d : Int) (xs : List Int) (w : World) (hm : MaskAt w M B win xs) (h0 : 1 ≤ d) (hd : d < 281474976710656) :
    Calls Try.prog 49 #[.pointer (some ⟨M, 0, none⟩), .int .u64 d] w fun e w' => e = .returned (.tuple #[]) ∧ MaskAt w' M B win (lshL xs win d) ∧ w.grownBy w' (some B) := by
  have hd0 : (d == 0) = false := by rw [beq_eq_false_iff_ne]; omega
  have m0 := cellB hm.m 0
  have m2 := cellB hm.m 2
  simp only [List.getElem?_cons_zero, List.getElem?_cons_succ] at m0 m2
  have hML := ltB hm.m
  have hne := hm.ne
  have hn1 : 1 ≤ xs.length := by have := hm.len; have := hm.lo; omega
  have hn8 : xs.length ≤ 8 := by have := hm.len; have := hm.hi; omega
  have HM := Lib.hid hm
  clear hm
  obtain ⟨n, hn⟩ : ∃ n, n = xs.length := ⟨_, rfl⟩
  rw [← hn] at m0 hn1 hn8
  have Hn := Lib.hid hn
  clear hn
  go_enter Try.func49, Try.ntmps49
  go_wp2
  go_loopw [6] (fun i wr => ∃ k : Nat, k ≤ n ∧ i = .int .i64 ((k : Int) - 1) ∧ LshRel xs d B w wr k) (fun i _ => (intOf i + 1).toNat)
  case atStart =>
    refine ⟨n, Nat.le_refl _, rfl, ⟨?_, World.grownBy.refl _ _⟩⟩
    rw [List.take_of_length_le (Nat.le_of_eq Hn.out.symm), List.drop_of_length_le (by rw [shlL_length, Hn.out]; exact Nat.le_refl _), List.append_nil]
    exact HM.out.b
  case round =>
    obtain ⟨k, hk, rfl, hr⟩ := hrel
    have hMo := hr.gr.block M hML (by simp only [ne_eq, Option.some.injEq]; exact hne)
    have m1 : wr.cell? ⟨M, 0, none⟩ = some (.slice (some ⟨B, 0, none⟩) n n) := (World.cell?_of_block (a := ⟨M, 0, none⟩) hMo).trans m0
    have m3 : wr.cell? ⟨M, 2, none⟩ = some (.int .u64 (mskV win)) := (World.cell?_of_block (a := ⟨M, 2, none⟩) hMo).trans m2
    clear m0 m2 hMo
    rcases Nat.eq_zero_or_pos k with rfl | hk0
    · have hrow : wr.heap[B]? = some (.cells (nums .u64 (shlL xs d)).toArray 26) := hr.row
      have l1 := cellN hrow ((n : Int) - 1) (by omega) (by rw [shlL_length, ← Hn.out]; omega)
      have i3 : ((n : Int) - 1).toNat = n - 1 := by omega
      rw [i3] at l1
      have l2 := frozB hrow (n - 1)
      have i1 : (1 : Int) ≤ (n : Int) := by omega
      have i2 : (n : Int) - 1 < (n : Int) := by omega
      have Hrow := Lib.hid hrow
      clear hrow
      have Hr := Lib.hid hr
      clear hr
      go_wp2
      have j1 : IntKind.i64.wrap ((n : Int) - 1) = (n : Int) - 1 := IntWalk.i64_in _ (by omega)
      go_still_tail 18, (by kernel_rfl)
      change wpList _ _ _ _ _ wr.drew
      clear j1
      go_wp2
      go_end0
      have hg := World.grownBy.trans Hr.out.gr (World.grownBy.trans (grB wr B (n - 1) (.int .u64 (bits .and .u64 (at0 (shlL xs d) ((n : Int) - 1)) (mskV win)))) (grDrew _ (some B)))
      refine ⟨rfl, HM.out.words hg ?_ (lshL_length _ _ _) (lshL_ok HM.out.ok _ _), hg⟩
      have h := setN Hrow.out (n - 1) (bits .and .u64 (at0 (shlL xs d) ((n : Int) - 1)) (mskV win))
      have e : lshL xs win d = (shlL xs d).set (n - 1) (bits .and .u64 (at0 (shlL xs d) ((n : Int) - 1)) (mskV win)) := by unfold lshL; rw [← Hn.out]
      rw [e]
      exact h
    · obtain ⟨c, rfl⟩ : ∃ c, k = c + 1 := ⟨k - 1, by omega⟩
      have e1 : ((c + 1 : Nat) : Int) - 1 = (c : Int) := by omega
      rw [e1]
      clear e1
      have hkl : c + 1 ≤ xs.length := by rw [← Hn.out]; exact hk
      have b0 := hr.cell hkl c (by omega) (by omega)
      have f0 := frozB hr.row c
      rw [Int.toNat_natCast] at b0
      have i1 : (c : Int) < (n : Int) := by omega
      have hsh := run_shl (at0 xs c) d (by omega)
      by_cases h1 : d / 64 ≤ c
      · have b1 := hr.cell hkl (c - d / 64) (by omega) (by omega)
        by_cases h2 : d / 64 + 1 ≤ c
        · have hs : Hid (LshRel xs d B w (wr.setCell ⟨B, c, none⟩ (.int .u64 (bits .or .u64 (IntKind.u64.wrap (at0 xs c * 2 ^ min d.toNat 64)) (bits .or .u64 (IntKind.u64.wrap (at0 xs (c - d / 64) * 2 ^ (d % 64).toNat)) (at0 xs (c - d / 64 - 1) / 2 ^ (64 - d % 64).toNat))))).drew c) := by
            have h := hr.step hkl
            unfold shlV carV at h
            rw [if_pos h1, if_pos h2] at h
            exact h
          have b2 := hr.cell hkl (c - d / 64 - 1) (by omega) (by omega)
          rw [show ((c : Int) - d / 64 - 1).toNat = ((c : Int) - d / 64).toNat - 1 by omega] at b2
          clear hr
          go_wp2
          go_still_tail 17, (by kernel_rfl)
          change wpList _ _ _ _ _ wr.drew
          go_wp2
          go_roundw
          case rel => exact ⟨c, by omega, rfl, hs.out⟩
          case measure => simp [intOf]
        · have hs : Hid (LshRel xs d B w (wr.setCell ⟨B, c, none⟩ (.int .u64 (bits .or .u64 (IntKind.u64.wrap (at0 xs c * 2 ^ min d.toNat 64)) (IntKind.u64.wrap (at0 xs (c - d / 64) * 2 ^ (d % 64).toNat))))).drew c) := by
            have h := hr.step hkl
            unfold shlV carV at h
            rw [if_pos h1, if_neg h2] at h
            exact h
          clear hr
          go_wp2
          go_still_tail 17, (by kernel_rfl)
          change wpList _ _ _ _ _ wr.drew
          go_wp2
          go_roundw
          case rel => exact ⟨c, by omega, rfl, hs.out⟩
          case measure => simp [intOf]
      · have hs : Hid (LshRel xs d B w (wr.setCell ⟨B, c, none⟩ (.int .u64 (bits .or .u64 (IntKind.u64.wrap (at0 xs c * 2 ^ min d.toNat 64)) 0))).drew c) := by
          have h := hr.step hkl
          unfold shlV carV at h
          rw [if_neg h1] at h
          exact h
        clear hr
        go_wp2
        go_still_tail 17, (by kernel_rfl)
        change wpList _ _ _ _ _ wr.drew
        go_wp2
        go_roundw
        case rel => exact ⟨c, by omega, rfl, hs.out⟩
        case measure => simp [intOf]

theorem info26 : (Try.prog.info? 26).map (fun i => (i.zero, i.size, i.bytes)) = some (some (.int .u64 0), 1, 8) := by kernel_rfl

def NewMask (w : World) (win : Int) (e : Ending) (w' : World) : Prop :=
  ∃ M B : Nat, e = .returned (.pointer (some ⟨M, 0, none⟩)) ∧ w.heap.size ≤ M ∧ w.heap.size ≤ B ∧ MaskAt w' M B win (List.replicate ((win + 63) / 64).toNat 0) ∧ Below w.heap.size w w'

theorem made_heap {w : World} {base g n : Nat} {c : Nat} (h : w.ownsRow base 26 1 (.slice (some ⟨g, 0, none⟩) n n) n (madeCells (Value.int IntKind.u64 0).cells (n * 1)).toList) (_hc : c = n) : w.heap[g]? = some (.cells (nums .u64 (List.replicate n 0)).toArray 26) := by
  obtain ⟨h1, h2⟩ := h
  rcases h2 with ⟨h2, _⟩ | ⟨g', cap, cur, hv, _, hh, _, _, hs, ht⟩
  · cases h2
  · injection hv with hv _ hc
    injection hv with hv
    injection hv with hv
    subst hv hc
    rw [hh]
    have e1 : cur.toList = (madeCells (Value.int IntKind.u64 0).cells (n * 1)).toList := by
      rw [← ht, List.take_of_length_le (by rw [Array.length_toList, hs]; exact Nat.le_refl _)]
    have e2 : (madeCells (Value.int IntKind.u64 0).cells (n * 1)).toList = nums .u64 (List.replicate n 0) := by
      apply List.ext_getElem
      · simp [nums, madeCells]
      · intro i h1 h2
        simp [nums, madeCells, Value.cells, Nat.mod_one]
    have e3 : cur = (nums .u64 (List.replicate n 0)).toArray := by
      rw [← e2, ← e1]
    rw [e3]

set_option maxHeartbeats 400000 in
theorem new_fixed (win : Int) (w : World) (h1 : 1 ≤ win) (h2 : win ≤ 500) (h3 : win % 64 ≤ 32) :
    Calls Try.prog 21 #[.int .u64 win] w fun e w' => NewMask w win e w' := by
  obtain ⟨i0, hi, hz0, hz1, hz2⟩ := info_parts info26
  have hq : 1 ≤ (win + 63) / 64 := by omega
  have hc0 : ((win + 63) / 64 == 0) = false := by rw [beq_eq_false_iff_ne]; omega
  go_enter Try.func21, Try.ntmps21
  go_wp2_with (refine wpList_make_full _ rfl _ _ 27 rfl w.heap.size 26 i0 (.int .u64 0) 1 Try.underlying27 hi hz0 hz1 .u64 .u64 ((win+63)/64) ((win + 63)/64) ((win + 63)/64).toNat rfl rfl (by omega) (by omega) (by rw [hz2]; omega) (by unfold maxLen; omega) (Nat.le_refl _) ?_; intro w1 hown hgrow)
  go_ret
  have hb := made_heap (c := ((win + 63) / 64).toNat) hown rfl
  have hbl := ltB hb
  refine ⟨w1.heap.size, w.heap.size, rfl, hgrow.size, Nat.le_refl _, ⟨?_, ?_, ?_, ?_, h1, h2, h3⟩, ?_⟩
  · rw [List.length_replicate]
    exact heap_alloc_new w1 _
  · rw [Below.heap_alloc _ _ _ hbl]; exact hb
  · intro x hx
    rw [List.mem_replicate] at hx
    rw [hx.2]
    exact U64.zero
  · rw [List.length_replicate]; omega
  · exact (Below.grown (Below.refl _ _) hgrow (Nat.le_refl _) (by intro k hk; cases hk)).alloc hgrow.size _

end Go.Proofs.Ytklihfjchomkmaa
