/-
  spec.pieces, where a record holds one fragment.
-/
import Derived.Test.YtblmbbllfiigmaaDoorPAllb0
import Derived.Test.YtblmbbllfiigmaaDoorPAllb1
import Derived.Test.YtblmbbllfiigmaaDoorMtri
import Derived.Test.YtblmbbllfiigmaaDoorRd
namespace Go.Proofs.YtblmbbllfiigmaaDoor.PAll
open Go.RowKit Go.Proofs.YtblmbbllfiigmaaDoorW.PrintWords Go.Proofs.YtblmbbllfiigmaaDoorW.PrintLast Go.Proofs.YtblmbbllfiigmaaDoorW.PrintMore

/-- A fragment as the reference holds it. -/
def pcOf (g : Frag) : S68 := ⟨g.typ, g.len, g.seq, g.off, strOfNums g.dat, 0⟩
/-- The one fragment of a record. -/
def oneOf (s : ByteArray) : Frag := (parse 1 ((bytesOf s).drop 13)).headD ⟨0, 0, 0, 0, []⟩
structure OneRec (s : ByteArray) (g : Frag) : Prop where
  fits : FitsF g
  byt : ∀ x ∈ g.dat, 0 ≤ x ∧ x < 256
  short : g.dat.length ≤ 1000
  is : ∃ i, i < 65536 ∧ s = strOfNums (recN i (enc g))
open Classical in
noncomputable def spec_pieces.f (_ : Nat) (s : ByteArray) : Option (List S68 × Bool) := if OneRec s (oneOf s) then some ([pcOf (oneOf s)], true) else none
theorem one_rec {s : ByteArray} {g : Frag} (h : OneRec s g) : oneOf s = g := by
  obtain ⟨i, _, rfl⟩ := h.is
  unfold oneOf
  rw [rec_bytes i _ (enc_byt g h.fits.typ h.byt)]
  have e : (recN i (enc g)).drop 13 = [g].flatMap enc := by simp [recN]
  rw [e, parse_enc [g] 1 (by simp) (fun x hx => by
    obtain rfl : x = g := by simpa using hx
    exact h.fits)]
  rfl
theorem pieces_ev {s : ByteArray} {g : Frag} (h : OneRec s g) : Ev (fun k => spec_pieces.f k s) ([pcOf g], true) := by
  refine ⟨0, fun k _ => ?_⟩
  unfold spec_pieces.f
  have e := one_rec h
  rw [if_pos (by rw [e]; exact h), e]

set_option maxRecDepth 100000 in
set_option maxHeartbeats 4000000 in
theorem pieces_any (i : Nat) (g : Frag) (w : World) (hf : FitsF g) (hb : ∀ x ∈ g.dat, 0 ≤ x ∧ x < 256) (hl : g.dat.length ≤ 1000) :
    Calls Tryd.prog 26 #[.string (strOfNums (recN i (enc g)))] w fun e w' => ∃ v0_ : Value, e = .returned (.tuple #[v0_, .bool true]) ∧ Kd.R k68 68 w' w.heap.size (fun _ => True) v0_ [pcOf g] ∧ Below w.heap.size w w' := by
  obtain ⟨L, hL⟩ : ∃ L, L = recN i (enc g) := ⟨_, rfl⟩
  have hLb : ∀ x ∈ L, 0 ≤ x ∧ x < 256 := by rw [hL]; exact rec_byt i _ (enc_byt g hf.typ hb)
  have hLl : L.length = 25 + g.dat.length := by rw [hL, rec_len, enc_len]; omega
  have d13 : L.drop 13 = enc g := by rw [hL]; simp [recN]
  have hE : ((L.drop 3).take 2) = [0, 0] := by rw [hL]; rfl
  have dB : ∀ (n : Nat), ∀ x ∈ L.drop n, 0 ≤ x ∧ x < 256 := fun n x hx => hLb x (List.mem_of_mem_drop hx)
  have T1 := Aside0.mk (take_rd L hLb false 3 (by omega))
  have N1 := num_rd (L.drop 3) (dB 3) false 2 (by simp; omega) (by omega)
  rw [hE, List.drop_drop, show beV [0, 0] = 0 from rfl] at N1
  have N1 := Aside0.mk N1
  have T2 := take_rd (L.drop (3 + 2)) (dB _) false 6 (by simp; omega)
  rw [List.drop_drop] at T2
  have T2 := Aside0.mk T2
  have T3 := take_rd (L.drop (3 + 2 + 6)) (dB _) false 2 (by simp; omega)
  rw [List.drop_drop] at T3
  rw [show 3 + 2 + 6 + 2 = 13 from rfl, d13] at T3
  have T3 := Aside0.mk T3
  have hEb : ∀ x ∈ enc g, 0 ≤ x ∧ x < 256 := enc_byt g hf.typ hb
  have hEl := enc_len g
  have eB : ∀ (n : Nat), ∀ x ∈ (enc g).drop n, 0 ≤ x ∧ x < 256 := fun n x hx => hEb x (List.mem_of_mem_drop hx)
  have R1 := num_rd (enc g) hEb false 1 (by omega) (by omega)
  have R2 := num_rd ((enc g).drop 1) (eB _) false 3 (by simp; omega) (by omega)
  have R3 := num_rd ((enc g).drop 4) (eB _) false 2 (by simp; omega) (by omega)
  have R4 := num_rd ((enc g).drop 6) (eB _) false 3 (by simp; omega) (by omega)
  have R5 := num_rd ((enc g).drop 9) (eB _) false 3 (by simp; omega) (by omega)
  have R6 := take_rd ((enc g).drop 12) (eB _) false g.dat.length (by simp; omega)
  rw [List.drop_drop] at R2 R3 R4 R5 R6
  have b1 : beV ((enc g).take 1) = (g.typ : Int) := by simp [enc, hdr12, beV]
  have b2 : beV (((enc g).drop 1).take 3) = (g.len : Int) := by
    have := hf.len
    simp [enc, hdr12, beV]
    omega
  have b3 : beV (((enc g).drop 4).take 2) = (g.seq : Int) := by
    have := hf.seq
    simp [enc, hdr12, beV]
    omega
  have b4 : beV (((enc g).drop 6).take 3) = (g.off : Int) := by
    have := hf.len
    have := hf.fit
    simp [enc, hdr12, beV]
    omega
  have b5 : beV (((enc g).drop 9).take 3) = (g.dat.length : Int) := by
    have := hf.len
    have := hf.fit
    simp [enc, hdr12, beV]
    omega
  have e12 : (enc g).drop 12 = g.dat := by simp [enc, hdr12]
  have e6 : (enc g).drop (12 + g.dat.length) = [] := by rw [← hEl]; simp
  rw [b1] at R1
  rw [b2] at R2
  rw [b3] at R3
  rw [b4] at R4
  rw [b5, show 9 + 3 = 12 from rfl, e12] at R5
  rw [e6, e12, List.take_length] at R6
  have R1 := Aside0.mk R1
  have R2 := Aside0.mk R2
  have R3 := Aside0.mk R3
  have R4 := Aside0.mk R4
  have R5 := Aside0.mk R5
  have R6 := Aside0.mk R6
  have HNE : Aside0 ((strOfNums (enc g)).toList ≠ []) := ⟨by
    intro h
    have h2 := congrArg List.length h
    rw [Lib.strOfNums_toList] at h2
    simp [Lib.bytesOf, hEl] at h2⟩
  have HFIT := Aside0.mk hf
  have ht : (g.typ : Int) % 256 = (g.typ : Int) := by have := hf.typ; omega
  have HT0 := Aside0.mk ht
  clear ht
  clear hEb hEl eB b1 b2 b3 b4 b5 e12 e6
  have HL := Aside0.mk hL
  rw [← hL]
  clear hLb hLl hE dB hL hf
  go_enter Tryd.func26, Tryd.ntmps26
  go_upto_region 2 with fail
  have HI : Aside0 (IsS78 w (w.alloc (.cells #[.string (strOfNums L), .bool false] 78)) w.heap.size (strOfNums L) false) := ⟨⟨blk_new w _, Nat.le_refl _⟩⟩
  have HB : Aside0 (Below w.heap.size w (w.alloc (.cells #[.string (strOfNums L), .bool false] 78))) := ⟨below_alloc (Below.refl _ w) _⟩
  generalize w.alloc (.cells #[.string (strOfNums L), .bool false] 78) = W0 at *
  go_wp2_with fail
  refine (spec_reader_take.calls w.heap.size (strOfNums L) false 3 _ _ _ w W0 HI.out HB.out T1.out).mono ?_
  rintro e W1 ⟨rfl, hi, hb, _⟩
  have HI1 := Aside0.mk hi
  have HB1 := Aside0.mk hb
  clear hi hb HI HB
  go_wp2_with fail
  refine (spec_reader_number.calls 8 w.heap.size _ false 2 _ _ _ w W1 HI1.out HB1.out N1.out).mono ?_
  rintro e W2 ⟨rfl, hi, hb, _⟩
  have HI2 := Aside0.mk hi
  have HB2 := Aside0.mk hb
  clear hi hb HI1 HB1
  go_wp2_with fail
  refine (spec_reader_take.calls w.heap.size _ false 6 _ _ _ w W2 HI2.out HB2.out T2.out).mono ?_
  rintro e W3 ⟨rfl, hi, hb, _⟩
  have HI3 := Aside0.mk hi
  have HB3 := Aside0.mk hb
  clear hi hb HI2 HB2
  go_wp2_with fail
  refine (spec_reader_take.calls w.heap.size _ false 2 _ _ _ w W3 HI3.out HB3.out T3.out).mono ?_
  rintro e W4 ⟨rfl, hi, hb, _⟩
  have HI4 := Aside0.mk hi
  have HB4 := Aside0.mk hb
  clear hi hb HI3 HB3
  go_wp2_with fail
  go_loopg [2] 1 (fun kq v2 wr => ∃ (u2 : Value), v2 = u2 ∧ Aside0 (kq ≤ 1) ∧ Aside0 (IsS78 w wr w.heap.size (if kq = 1 then strOfNums (enc g) else strOfNums []) false) ∧ Aside0 (if kq = 1 then u2 = .slice none 0 0 else Kd.R k68 68 wr w.heap.size (fun _ => True) u2 [pcOf g]) ∧ Aside0 (Below w.heap.size w wr))
  case atStart => exact ⟨_, rfl, ⟨Nat.le_refl _⟩, by rw [if_pos rfl]; exact HI4, by rw [if_pos rfl]; exact ⟨rfl⟩, HB4⟩
  case round =>
    clear HI4 HB4
    obtain ⟨u2, rfl, HK, HI, HO, HB⟩ := hrel
    cases gk with
    | zero =>
      rw [if_neg (by decide)] at HI HO
      have c0 : wr.cell? ⟨w.heap.size, 0, none⟩ = some (.string (strOfNums [])) := (blk_cell HI.out.1 0).trans rfl
      have c1 : wr.cell? ⟨w.heap.size, 1, none⟩ = some (.bool false) := (blk_cell HI.out.1 1).trans rfl
      have he : (strOfNums []).toList.isEmpty = true := by rw [Lib.strOfNums_toList]; rfl
      go_wp2_with fail
      go_region
      all_goals go_wp2_with fail
      all_goals go_ret2
      all_goals exact ⟨_, rfl, Kd.R_drew HO.out, below_drew1 HB.out⟩
    | succ k1 =>
      obtain rfl : k1 = 0 := by have := HK.out; omega
      rw [if_pos rfl] at HI HO
      have he : (strOfNums (enc g)).toList.isEmpty = false := by
        cases h : (strOfNums (enc g)).toList with
        | nil => exact absurd h HNE.out
        | cons _ _ => rfl
      have c0 : wr.cell? ⟨w.heap.size, 0, none⟩ = some (.string (strOfNums (enc g))) := (blk_cell HI.out.1 0).trans rfl
      have c1 : wr.cell? ⟨w.heap.size, 1, none⟩ = some (.bool false) := (blk_cell HI.out.1 1).trans rfl
      have h2 := HO.out
      subst h2
      go_upto_if 30 with fail
      clear c0 c1
      go_wp2_with fail
      refine (spec_reader_number.calls 8 w.heap.size _ false 1 _ _ _ w wr HI.out HB.out R1.out).mono ?_
      rintro e W1 ⟨rfl, hi, hb, _⟩
      have HI1 := Aside0.mk hi
      have HB1 := Aside0.mk hb
      have ht := HT0.out
      clear hi hb HI HB HO
      go_upto_region 8 with fail
      have HI2 := Aside0.mk (IsS78.alloc HI1.out (.cells #[.int .u8 g.typ, .int .i64 0, .int .i64 0, .int .i64 0, .string ⟨#[]⟩, .int .u16 0] 68))
      have HB2 := Aside0.mk (below_alloc HB1.out (.cells #[.int .u8 g.typ, .int .i64 0, .int .i64 0, .int .i64 0, .string ⟨#[]⟩, .int .u16 0] 68))
      have HP2 := Aside0.mk (blk_new W1 (.cells #[.int .u8 g.typ, .int .i64 0, .int .i64 0, .int .i64 0, .string ⟨#[]⟩, .int .u16 0] 68))
      have HPG : Aside0 (W1.heap.size ≠ w.heap.size) := ⟨by have := HI1.out.lt; omega⟩
      have HPW : Aside0 (w.heap.size ≤ W1.heap.size) := ⟨HB1.out.size⟩
      clear HI1 HB1 ht
      generalize W1.alloc (.cells #[.int .u8 g.typ, .int .i64 0, .int .i64 0, .int .i64 0, .string ⟨#[]⟩, .int .u16 0] 68) = W2 at *
      generalize W1.heap.size = PB at *
      go_wp2_with fail
      refine (spec_reader_number.calls 8 w.heap.size _ false 3 _ _ _ w W2 HI2.out HB2.out R2.out).mono ?_
      rintro e W3 ⟨rfl, hi, hb, hk⟩
      have HI3 := Aside0.mk hi
      have HB3 := Aside0.mk hb
      have HP3 := Aside0.mk (hk.blk HP2.out HPG.out (by simp))
      clear hi hb hk HI2 HB2 HP2
      go_wp2_with fail
      refine (spec_reader_number.calls 8 w.heap.size _ false 2 _ _ _ w W3 HI3.out HB3.out R3.out).mono ?_
      rintro e W4 ⟨rfl, hi, hb, hk⟩
      have HI4 := Aside0.mk hi
      have HB4 := Aside0.mk hb
      have HP4 := Aside0.mk (hk.blk HP3.out HPG.out (by simp))
      clear hi hb hk HI3 HB3 HP3
      go_wp2_with fail
      refine (spec_reader_number.calls 8 w.heap.size _ false 3 _ _ _ w W4 HI4.out HB4.out R4.out).mono ?_
      rintro e W5 ⟨rfl, hi, hb, hk⟩
      have HI5 := Aside0.mk hi
      have HB5 := Aside0.mk hb
      have HP5 := Aside0.mk (hk.blk HP4.out HPG.out (by simp))
      clear hi hb hk HI4 HB4 HP4
      have q1 : W5.cell? ⟨PB, 1, none⟩ = some (.int .i64 0) := (blk_cell HP5.out 1).trans rfl
      have q2 : W5.cell? ⟨PB, 2, none⟩ = some (.int .i64 0) := (blk_cell HP5.out 2).trans rfl
      have q3 : W5.cell? ⟨PB, 3, none⟩ = some (.int .i64 0) := (blk_cell HP5.out 3).trans rfl
      have qf := fun j => blk_frozen HP5.out j
      go_upto_region 9 with fail
      have HX : Aside0 (IsS78 w (((W5.setCell ⟨PB, 1, none⟩ (.int .i64 g.len)).setCell ⟨PB, 2, none⟩ (.int .i64 g.seq)).setCell ⟨PB, 3, none⟩ (.int .i64 g.off)) w.heap.size (strOfNums ((enc g).drop 9)) false) := ⟨((HI5.out.far (p := ⟨PB, 1, none⟩) HPG.out.symm _).far (p := ⟨PB, 2, none⟩) HPG.out.symm _).far (p := ⟨PB, 3, none⟩) HPG.out.symm _⟩
      have HXB : Aside0 (Below w.heap.size w (((W5.setCell ⟨PB, 1, none⟩ (.int .i64 g.len)).setCell ⟨PB, 2, none⟩ (.int .i64 g.seq)).setCell ⟨PB, 3, none⟩ (.int .i64 g.off))) := ⟨below_set (below_set (below_set HB5.out HPW.out) HPW.out) HPW.out⟩
      have HXP : Aside0 ((((W5.setCell ⟨PB, 1, none⟩ (.int .i64 g.len)).setCell ⟨PB, 2, none⟩ (.int .i64 g.seq)).setCell ⟨PB, 3, none⟩ (.int .i64 g.off)).heap[PB]? = some (.cells #[.int .u8 g.typ, .int .i64 g.len, .int .i64 g.seq, .int .i64 g.off, .string ⟨#[]⟩, .int .u16 0] 68)) := ⟨by
        have h := blk_set (blk_set (blk_set HP5.out 1 (.int .i64 g.len)) 2 (.int .i64 g.seq)) 3 (.int .i64 g.off)
        simpa using h⟩
      clear HI5 HB5 HP5 q1 q2 q3 qf
      generalize ((W5.setCell ⟨PB, 1, none⟩ (.int .i64 g.len)).setCell ⟨PB, 2, none⟩ (.int .i64 g.seq)).setCell ⟨PB, 3, none⟩ (.int .i64 g.off) = W6 at *
      go_wp2_with fail
      refine (spec_reader_number.calls 8 w.heap.size _ false 3 _ _ _ w W6 HX.out HXB.out R5.out).mono ?_
      rintro e W7 ⟨rfl, hi, hb, hk⟩
      have HI7 := Aside0.mk hi
      have HB7 := Aside0.mk hb
      have HP7 := Aside0.mk (hk.blk HXP.out HPG.out (by simp))
      clear hi hb hk HX HXB HXP
      go_wp2_with fail
      refine (spec_reader_take.calls w.heap.size _ false _ _ _ _ w W7 HI7.out HB7.out R6.out).mono ?_
      rintro e W8 ⟨rfl, hi, hb, hk⟩
      have HI8 := Aside0.mk hi
      have HB8 := Aside0.mk hb
      have HP8 := Aside0.mk (hk.blk HP7.out HPG.out (by simp))
      clear hi hb hk HI7 HB7 HP7
      have q4 : W8.cell? ⟨PB, 4, none⟩ = some (.string ⟨#[]⟩) := (blk_cell HP8.out 4).trans rfl
      have qf := fun j => blk_frozen HP8.out j
      go_upto_region 10 with fail
      have HX : Aside0 (IsS78 w (W8.setCell ⟨PB, 4, none⟩ (.string (strOfNums g.dat))) w.heap.size (strOfNums []) false) := ⟨HI8.out.far (p := ⟨PB, 4, none⟩) HPG.out.symm _⟩
      have HXB : Aside0 (Below w.heap.size w (W8.setCell ⟨PB, 4, none⟩ (.string (strOfNums g.dat)))) := ⟨below_set HB8.out HPW.out⟩
      have HXP : Aside0 ((W8.setCell ⟨PB, 4, none⟩ (.string (strOfNums g.dat))).heap[PB]? = some (.cells #[.int .u8 g.typ, .int .i64 g.len, .int .i64 g.seq, .int .i64 g.off, .string (strOfNums g.dat), .int .u16 0] 68)) := ⟨by
        have h := blk_set HP8.out 4 (.string (strOfNums g.dat))
        simpa using h⟩
      clear HI8 HB8 HP8 q4 qf
      generalize W8.setCell ⟨PB, 4, none⟩ (.string (strOfNums g.dat)) = W9 at *
      have c0 : W9.cell? ⟨w.heap.size, 0, none⟩ = some (.string (strOfNums [])) := (blk_cell HX.out.1 0).trans rfl
      have c1 : W9.cell? ⟨w.heap.size, 1, none⟩ = some (.bool false) := (blk_cell HX.out.1 1).trans rfl
      have cf := fun j => blk_frozen HX.out.1 j
      have q1 : W9.cell? ⟨PB, 1, none⟩ = some (.int .i64 g.len) := (blk_cell HXP.out 1).trans rfl
      have q3 : W9.cell? ⟨PB, 3, none⟩ = some (.int .i64 g.off) := (blk_cell HXP.out 3).trans rfl
      have q4 : W9.cell? ⟨PB, 4, none⟩ = some (.string (strOfNums g.dat)) := (blk_cell HXP.out 4).trans rfl
      have hsz : (strOfNums g.dat).size = g.dat.length := strOfNums_size _
      have hfit : (g.off : Int) + (g.dat.length : Int) ≤ (g.len : Int) := by have := HFIT.out.fit; omega
      have hlen : (g.len : Int) < 16777216 := by have := HFIT.out.len; omega
      have hdec : decide ((g.len : Int) < (g.off : Int) + (g.dat.length : Int)) = false := by rw [decide_eq_false_iff_not]; omega
      go_upto_region 11 with fail
      have HY := Aside0.mk (HX.out.set_1 false)
      have HYB := Aside0.mk (below_set (j := 1) (v := .bool false) HXB.out (Nat.le_refl w.heap.size))
      have HYP := Aside0.mk (blk_far HXP.out (p := ⟨w.heap.size, 1, none⟩) HPG.out (.bool false))
      clear HX HXB HXP c0 c1 cf q1 q3 q4 hsz hfit hlen hdec
      generalize W9.setCell ⟨w.heap.size, 1, none⟩ (.bool false) = WA at *
      have q0 : WA.cell? ⟨PB, 0, none⟩ = some (.int .u8 g.typ) := (blk_cell HYP.out 0).trans rfl
      have q1 : WA.cell? ⟨PB, 1, none⟩ = some (.int .i64 g.len) := (blk_cell HYP.out 1).trans rfl
      have q2 : WA.cell? ⟨PB, 2, none⟩ = some (.int .i64 g.seq) := (blk_cell HYP.out 2).trans rfl
      have q3 : WA.cell? ⟨PB, 3, none⟩ = some (.int .i64 g.off) := (blk_cell HYP.out 3).trans rfl
      have q4 : WA.cell? ⟨PB, 4, none⟩ = some (.string (strOfNums g.dat)) := (blk_cell HYP.out 4).trans rfl
      have q5 : WA.cell? ⟨PB, 5, none⟩ = some (.int .u16 0) := (blk_cell HYP.out 5).trans rfl
      go_wp2_with ((with_reducible refine gate_builtin (b := .append) (xs := #[.tmp 68, .tmp 70]) rfl ?_); at_builtin; refine Kd.R_append k68 (w0 := w) w.heap.size rfl (.tmp 68) (.tmp 70) 63 68 (.agg #[(.int .u8 0), (.int .i64 0), (.int .i64 0), (.int .i64 0), (.string ⟨#[]⟩), (.int .u16 0)]) 56 rfl Tryd.underlying63 info68 rfl (by decide) (by omega) (.slice none 0 0) [] (pcOf g) [.int .u8 g.typ, .int .i64 g.len, .int .i64 g.seq, .int .i64 g.off, .string (strOfNums g.dat), .int .u16 0] (fun _ => True) (fun _ => False) rfl rfl ?aP (fun _ hk => hk.elim) ?aF ?aO ?aB ?aS ?aL ?_; (case aP => exact k68_mkM _ _ _ (pcOf g)); (case aB => exact HYB.out); (case aF => exact (fun _ _ => trivial)); (case aO => exact Kd.R_nil _ _ _ _ _); (case aS => exact below_size HYB.out); (case aL => simp); intro v7 w7 ho hb hg hat; have HO7 := Aside0.mk ho; have HB7 := Aside0.mk hb; have HG7 := Aside0.mk hg; clear ho hb hg hat)
      go_roundg 0
      case measure => omega
      case rel =>
        refine ⟨_, rfl, ⟨Nat.zero_le _⟩, ?_, ?_, HB7⟩
        · rw [if_neg (by decide)]
          exact ⟨HY.out.grown HG7.out (by simp [Value.ownBlock])⟩
        · rw [if_neg (by decide)]
          exact ⟨HO7.out⟩


theorem spec_pieces.calls (k : Nat) (a0 : ByteArray) (r1 : List S68) (r2 : Bool) (w : World) (h : spec_pieces.f k a0 = some (r1, r2)) :
    Calls Tryd.prog 26 #[.string a0] w fun e w' => ∃ v0_ : Value, e = .returned (.tuple #[v0_, .bool r2]) ∧ Kd.R k68 68 w' w.heap.size (fun _ => True) v0_ r1 ∧ Below w.heap.size w w' := by
  unfold spec_pieces.f at h
  split at h
  case isFalse => cases h
  rename_i hc
  have e := Option.some.inj h
  injection e with e1 e2
  subst e1 e2
  obtain ⟨i, _, hs⟩ := hc.is
  have hw := pieces_any i (oneOf a0) w hc.fits hc.byt hc.short
  rw [← hs] at hw
  exact hw

end Go.Proofs.YtblmbbllfiigmaaDoor.PAll
