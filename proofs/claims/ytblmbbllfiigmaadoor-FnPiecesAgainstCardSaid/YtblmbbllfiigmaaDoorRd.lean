/-
  The reference's reader over plain bytes.
-/
import Derived.Test.YtblmbbllfiigmaaDoorPAllb1
import Derived.Test.YtblmbbllfiigmaaDoorMtri
import Derived.Laws.BitsLemmas
namespace Go.Proofs.YtblmbbllfiigmaaDoor
open Go.RowKit Go.Proofs.YtblmbbllfiigmaaDoorW.PrintWords Go.Proofs.YtblmbbllfiigmaaDoorW.PrintLast Go.Proofs.YtblmbbllfiigmaaDoorW.PrintMore PAll

theorem take_rd (l : List Int) (hb : ∀ x ∈ l, 0 ≤ x ∧ x < 256) (b : Bool) (n : Nat) (hn : n ≤ l.length) :
    spec_reader_take.f (strOfNums l) b (n : Int) = some (strOfNums (l.take n), strOfNums (l.drop n), b) := by
  unfold spec_reader_take.f
  rw [strOfNums_size, if_neg (by omega), if_pos (by omega), if_pos (by omega)]
  have e1 : (strOfNums l).extract 0 ((n : Int)).toNat = strOfNums (l.take n) := by
    rw [str_cut, bytes_str l hb]
    simp
  have e2 : (strOfNums l).extract ((n : Int)).toNat l.length = strOfNums (l.drop n) := by
    rw [str_cut, bytes_str l hb, Int.toNat_natCast, List.take_of_length_le (by simp)]
  rw [e1, e2]

/-- A number out of its bytes. -/
def beV (l : List Int) : Int := l.foldl (fun v x => v * 256 + x) 0
theorem or_byte (v x : Int) (h0 : 0 ≤ v) (h1 : v < 16777216) (hx : 0 ≤ x) (hx2 : x < 256) : Go.bits .or .i64 (wrap64 (v * 256)) (wrap64 x) = v * 256 + x := by
  have e1 : wrap64 (v * 256) = v * 256 := by unfold wrap64; omega
  have e2 : wrap64 x = x := by unfold wrap64; omega
  rw [e1, e2]
  refine bits_join .i64 40 (by decide) (fun n h0 h1 => ?_) 8 (v * 256) x (by omega) (by omega) (by omega) hx (by omega) (by omega)
  rw [IntKind.wrap_i64]
  omega
theorem num_loop (xs : List Int) (hb : ∀ x ∈ xs, 0 ≤ x ∧ x < 256) (hn : xs.length ≤ 3) (s : ByteArray) (b : Bool) : ∀ (d i k : Nat), i + d = xs.length → d < k →
    spec_reader_number.l0 k (strOfNums xs) (beV (xs.take i)) (i : Int) s b = some (beV xs, s, b)
  | 0, i, k + 1, h, _ => by
    rw [spec_reader_number.l0, strOfNums_size, if_neg (by omega), List.take_of_length_le (by omega)]
  | d + 1, i, k + 1, h, hk => by
    have hi : i < xs.length := by omega
    have ih := num_loop xs hb hn s b d (i + 1) k (by omega) (by omega)
    have hx := hb xs[i] (List.getElem_mem hi)
    have hbt : bt (strOfNums xs) (i : Int) = xs[i] := by
      rw [← rd_bytesOf, bytes_str xs hb]
      unfold rd
      rw [Int.toNat_natCast, List.getD_eq_getElem?_getD, List.getElem?_eq_getElem hi]
      rfl
    have hv : beV (xs.take (i + 1)) = beV (xs.take i) * 256 + xs[i] := by
      rw [List.take_succ_eq_append_getElem hi, beV, List.foldl_append]
      rfl
    have hbound : 0 ≤ beV (xs.take i) ∧ beV (xs.take i) < 16777216 := by
      have hlen : i ≤ 2 := by omega
      match i, hlen with
      | 0, _ => simp [beV]
      | 1, _ =>
        match xs, hi with
        | a :: c :: r, _ =>
          have := hb a (by simp)
          simp [beV]
          omega
      | 2, _ =>
        match xs, hi with
        | a :: c :: e :: r, _ =>
          have h1 := hb a (by simp)
          have h2 := hb c (by simp)
          simp [beV]
          omega
    rw [spec_reader_number.l0, strOfNums_size, if_pos (by omega), if_pos (by omega), hbt, or_byte _ _ hbound.1 hbound.2 hx.1 hx.2, w64_succ _ (by omega), ← hv]
    exact ih
theorem num_rd (l : List Int) (hb : ∀ x ∈ l, 0 ≤ x ∧ x < 256) (b : Bool) (n : Nat) (hn : n ≤ l.length) (h3 : n ≤ 3) :
    spec_reader_number.f 8 (strOfNums l) b (n : Int) = some (beV (l.take n), strOfNums (l.drop n), b) := by
  unfold spec_reader_number.f
  rw [take_rd l hb b n hn]
  simp only [Option.bind_some]
  exact num_loop (l.take n) (fun x hx => hb x (List.mem_of_mem_take hx)) (by simp; omega) _ b n 0 8 (by simp; omega) (by omega)

end Go.Proofs.YtblmbbllfiigmaaDoor
