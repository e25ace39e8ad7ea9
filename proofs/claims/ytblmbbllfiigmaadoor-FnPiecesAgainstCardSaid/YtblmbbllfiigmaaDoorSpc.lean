/-
  The reference's buffer of pieces, walked: covered.
-/
import Derived.Test.YtblmbbllfiigmaaDoorSpb
namespace Go.Proofs.YtblmbbllfiigmaaDoor
open Go.RowKit Go.Proofs.YtblmbbllfiigmaaDoorW.PrintWords Go.Proofs.YtblmbbllfiigmaaDoorW.PrintLast Go.Proofs.YtblmbbllfiigmaaDoorW.PrintMore PAll
attribute [local go_sem] max2_int min2_int max_two min_two max_three min_three max_four min_four

/-- One piece, one pass, all passes of covered. -/
def covStep (q : Int) (n : Int) (p : S68) : Int := if p.f2 = q ∧ p.f3 ≤ n then mx n (p.f3 + (p.f4.size : Int)) else n
def covPass (q : Int) (l : List S68) (n : Int) : Int := l.foldl (covStep q) n
def covIter (q : Int) (l : List S68) : Nat → Int
  | 0 => 0
  | t + 1 => covPass q l (covIter q l t)
/-- The pieces' numbers are small. -/
def SmallS (l : List S68) : Prop := ∀ p ∈ l, 0 ≤ p.f3 ∧ p.f3 + (p.f4.size : Int) ≤ 1000000
theorem covStep_bound {q n : Int} {p : S68} (h : 0 ≤ p.f3 ∧ p.f3 + (p.f4.size : Int) ≤ 1000000) (hn : 0 ≤ n ∧ n ≤ 1000000) : 0 ≤ covStep q n p ∧ covStep q n p ≤ 1000000 := by
  unfold covStep mx
  split
  · split <;> omega
  · exact hn
theorem covPass_bound (q : Int) : ∀ (l : List S68) (n : Int), SmallS l → (0 ≤ n ∧ n ≤ 1000000) → 0 ≤ covPass q l n ∧ covPass q l n ≤ 1000000
  | [], n, _, hn => hn
  | p :: l, n, h, hn => covPass_bound q l (covStep q n p) (fun x hx => h x (by simp [hx])) (covStep_bound (h p (by simp)) hn)
theorem covIter_bound (q : Int) (l : List S68) (h : SmallS l) : ∀ t, 0 ≤ covIter q l t ∧ covIter q l t ≤ 1000000
  | 0 => ⟨by simp [covIter], by simp [covIter]⟩
  | t + 1 => covPass_bound q l _ h (covIter_bound q l h t)
theorem take_small {l : List S68} (h : SmallS l) (j : Nat) : SmallS (l.take j) := fun p hp => h p (List.mem_of_mem_take hp)

set_option maxRecDepth 100000 in
set_option maxHeartbeats 4000000 in
theorem covered_any (base G : Nat) (v : Value) (l : List S68) (nx q : Int) (w : World) (hs : SpB w base G v l nx) (hn : l.length ≤ 1000000) (hsm : SmallS l) :
    Calls Tryd.prog 37 #[.pointer (some ⟨G, 0, none⟩), .int .i64 q] w fun e w' => e = .returned (.int .i64 (covIter q l l.length)) ∧ Below w.heap.size w w' := by
  obtain ⟨A, c, hv⟩ := Kd.R_slice hs.row
  subst hv
  have HS := Aside0.mk hs
  have HN := Aside0.mk hn
  have HSM := Aside0.mk hsm
  clear hs hn hsm
  go_enter Tryd.func37, Tryd.ntmps37
  go_wp2_with fail
  go_loopw [5, 6] (fun v5 v6 wr => ∃ (t : Nat), v6 = .int .i64 t ∧ v5 = .int .i64 (covIter q l t) ∧ t ≤ l.length ∧ Aside0 (SpB wr base G (.slice A l.length c) l nx) ∧ Aside0 (Below w.heap.size w wr)) (fun _ v6 _ => l.length - (intOf v6).toNat)
  case atStart => exact ⟨0, rfl, rfl, Nat.zero_le _, HS, ⟨Below.refl _ w⟩⟩
  case round =>
    clear HS
    obtain ⟨t, rfl, rfl, ht, HS, HB⟩ := hrel
    have c0 : wr.cell? ⟨G, 0, none⟩ = some (.slice A l.length c) := cellB HS.out.blk 0
    by_cases hlt : t < l.length
    · have p2 : (t : Int) < (l.length : Int) := by omega
      have HJ := Aside0.mk hlt
      have HW : Aside0 (wrap64 ((t : Int) + 1) = ((t + 1 : Nat) : Int)) := ⟨by have := HN.out; unfold wrap64; omega⟩
      clear ht hlt
      obtain ⟨n0, hn0⟩ : ∃ n0, n0 = covIter q l t := ⟨_, rfl⟩
      have HN0 := Aside0.mk hn0
      rw [← hn0]
      clear hn0
      go_upto_region 6 with fail
      clear c0 p2
      go_loopw [5, 7] (fun v5 v7 w2 => ∃ (j : Nat), v7 = .int .i64 j ∧ v5 = .int .i64 (covPass q (l.take j) n0) ∧ j ≤ l.length ∧ Aside0 (SpB w2 base G (.slice A l.length c) l nx) ∧ Aside0 (Below w.heap.size w w2)) (fun _ v7 _ => l.length - (intOf v7).toNat)
      case atStart => exact ⟨0, rfl, rfl, Nat.zero_le _, HS, HB⟩
      case round =>
        clear HS HB
        obtain ⟨j, rfl, rfl, hj, HS, HB⟩ := hrel
        have c0 : wr.cell? ⟨G, 0, none⟩ = some (.slice A l.length c) := cellB HS.out.blk 0
        by_cases hlt : j < l.length
        · have p1 : (0 : Int) ≤ (j : Int) := by omega
          have p2 : (j : Int) < (l.length : Int) := by omega
          have HJ2 := Aside0.mk hlt
          obtain ⟨ad, hA, x0, x1, x2, x3, x4, x5⟩ := at_T68 (Kd.R_reads' HS.out.row).2.2 (j : Int) p1 p2
          subst hA
          obtain ⟨x, hx⟩ : ∃ x, rd_T68 l (j : Int) = x := ⟨_, rfl⟩
          rw [hx] at x0 x1 x2 x3 x4 x5
          rw [Int.toNat_natCast] at x0 x1 x2 x3 x4 x5
          have hxl : l[j]? = some x := by
            rw [← hx, rd_T68, Int.toNat_natCast, List.getD_eq_getElem?_getD, List.getElem?_eq_getElem hlt]
            rfl
          have HXS := Aside0.mk (HSM.out x (List.mem_of_getElem? hxl))
          have hn1 := covPass_bound q (l.take j) n0 (take_small HSM.out j) (by rw [HN0.out]; exact covIter_bound q l HSM.out t)
          have hstep : covPass q (l.take (j + 1)) n0 = covStep q (covPass q (l.take j) n0) x := by
            rw [take_get l j x hxl, covPass, List.foldl_append]
            rfl
          have HST := Aside0.mk hstep
          have HW2 : Aside0 (wrap64 ((j : Int) + 1) = ((j + 1 : Nat) : Int)) := ⟨by have := HN.out; unfold wrap64; omega⟩
          generalize covPass q (l.take j) n0 = n1 at *
          clear hx hxl hstep hj hlt
          go_upto_region 9 with fail
          have hb : Below wr.heap.size wr (wr.alloc (.cells #[.int .u8 x.f0, .int .i64 x.f1, .int .i64 x.f2, .int .i64 x.f3, .string x.f4, .int .u16 x.f5] 68)) := below_alloc (Below.refl _ wr) _
          have HS2 := Aside0.mk (HS.out.below hb)
          have HB2 := Aside0.mk (below_then HB.out HB.out.size hb)
          have HP := Aside0.mk (blk_new wr (.cells #[.int .u8 x.f0, .int .i64 x.f1, .int .i64 x.f2, .int .i64 x.f3, .string x.f4, .int .u16 x.f5] 68))
          clear hb c0 x0 x1 x2 x3 x4 x5 HS HB
          generalize wr.alloc (.cells #[.int .u8 x.f0, .int .i64 x.f1, .int .i64 x.f2, .int .i64 x.f3, .string x.f4, .int .u16 x.f5] 68) = W2 at *
          generalize wr.heap.size = PB at *
          have y2 : W2.cell? ⟨PB, 2, none⟩ = some (.int .i64 x.f2) := (blk_cell HP.out 2).trans rfl
          have y3 : W2.cell? ⟨PB, 3, none⟩ = some (.int .i64 x.f3) := (blk_cell HP.out 3).trans rfl
          have y4 : W2.cell? ⟨PB, 4, none⟩ = some (.string x.f4) := (blk_cell HP.out 4).trans rfl
          cases h2 : (x.f2 == q) with
          | false =>
            have HNO : Aside0 (covStep q n1 x = n1) := ⟨by unfold covStep; rw [if_neg (fun h => by rw [h.1] at h2; simp at h2)]⟩
            go_wp2_with fail
            go_roundw
            case rel => exact ⟨j + 1, by rw [HW2.out], by rw [HST.out, HNO.out], HJ2.out, HS2, HB2⟩
            case measure => exact meas _ _ _ HJ2.out HW2.out
          | true =>
            by_cases h3 : x.f3 ≤ n1
            · have hd : decide (x.f3 ≤ n1) = true := decide_eq_true h3
              have HYES : Aside0 (covStep q n1 x = mx n1 (x.f3 + (x.f4.size : Int))) := ⟨by unfold covStep; rw [if_pos ⟨by simpa using h2, h3⟩]⟩
              have hs1 := HXS.out
              go_wp2_with fail
              go_roundw
              case rel => exact ⟨j + 1, by rw [HW2.out], by rw [HST.out, HYES.out]; rfl, HJ2.out, HS2, HB2⟩
              case measure => exact meas _ _ _ HJ2.out HW2.out
            · have hd : decide (x.f3 ≤ n1) = false := decide_eq_false h3
              have HNO : Aside0 (covStep q n1 x = n1) := ⟨by unfold covStep; rw [if_neg (fun h => h3 h.2)]⟩
              go_wp2_with fail
              go_roundw
              case rel => exact ⟨j + 1, by rw [HW2.out], by rw [HST.out, HNO.out], HJ2.out, HS2, HB2⟩
              case measure => exact meas _ _ _ HJ2.out HW2.out
        · have hjl : j = l.length := by omega
          have p3 : ¬ (j : Int) < (l.length : Int) := by omega
          have HE : Aside0 (covPass q (l.take j) n0 = covIter q l (t + 1)) := ⟨by rw [hjl, List.take_length, HN0.out]; rfl⟩
          clear hj hlt hjl
          go_wp2_with fail
          go_roundw
          case rel => exact ⟨t + 1, by rw [HW.out], by rw [HE.out], HJ.out, HS, HB⟩
          case measure => exact meas _ _ _ HJ.out HW.out
    · have htl : t = l.length := by omega
      have p2 : ¬ (t : Int) < (l.length : Int) := by omega
      have HE : Aside0 (covIter q l t = covIter q l l.length) := ⟨by rw [htl]⟩
      clear ht hlt htl
      go_wp2_with fail
      go_ret
      exact ⟨by rw [HE.out]; rfl, HB.out⟩

end Go.Proofs.YtblmbbllfiigmaaDoor
