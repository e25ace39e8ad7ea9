/-
  push, walked: a record of fragments.
-/
import Derived.Test.YtblmbbllfiigmaaDoorMid
import Derived.Test.YtblmbbllfiigmaaDoorRec
import Derived.Deep.DeepCutAuto
import Derived.Deep.RegionHeld
namespace Go.Proofs.YtblmbbllfiigmaaDoor
open Go.RowKit Go.Proofs.YtblmbbllfiigmaaDoorW.PrintWords Go.Proofs.YtblmbbllfiigmaaDoorW.PrintLast Go.Proofs.YtblmbbllfiigmaaDoorW.PrintMore

/-- Is the last fragment the beginning of a message that came out already. -/
def againOf (cur : Nat) (gs : List Frag) : Bool :=
  match gs.getLast? with
  | some g => decide (g.off = 0) && decide (g.seq < cur)
  | none => false
theorem againOf_snoc (cur : Nat) (gs : List Frag) (g : Frag) : againOf cur (gs ++ [g]) = (decide (g.off = 0) && decide (g.seq < cur)) := by simp [againOf]

theorem stPut_old (ep : Int) (s : St) (g : Frag) (h : g.seq < s.cur) : stPut ep s g = s := by
  unfold stPut
  rw [if_pos h]
theorem stPut_cur (ep : Int) (s : St) (g : Frag) : (stPut ep s g).cur = s.cur := by
  unfold stPut
  split
  · rfl
  · split <;> rfl
theorem fold_cur (ep : Int) (gs : List Frag) : ∀ s : St, (gs.foldl (stPut ep) s).cur = s.cur := by
  induction gs with
  | nil => intro s; rfl
  | cons g gs ih => intro s; rw [List.foldl_cons, ih, stPut_cur]

theorem cell_far (w : World) (F j : Nat) (u : Value) (H k : Nat) (h : F ≠ H) : (w.setCell ⟨F, j, none⟩ u).cell? ⟨H, k, none⟩ = w.cell? ⟨H, k, none⟩ :=
  World.cell?_setCell_other w ⟨F, j, none⟩ ⟨H, k, none⟩ u (fun e => h (by injection e))

def lenOf : Value → Nat
  | .slice _ n _ => n
  | _ => 0

/-- Where the loop of push stands. -/
structure PushRel (w0 : World) (base Z H b : Nat) (ep : Int) (s : St) (done todo : List Frag) (A : Option Addr) (c : Nat) (wr : World) : Prop where
  buf : BufAt wr base Z (done.foldl (stPut ep) s)
  ok : AllOk ep (done.foldl (stPut ep) s) todo
  at_ : 0 < (todo.flatMap enc).length → ∃ o, A = some ⟨b, o, none⟩ ∧ BytAt wr b o (todo.flatMap enc)
  cap : (todo.flatMap enc).length ≤ c
  blk : ∃ cells m, wr.heap[b]? = some (.cells cells 5 m)
  hd : wr.cell? ⟨H, 4, none⟩ = some (.int .u16 ep)
  hdb : ∃ l, wr.heap[H]? = some (.cells l 91)
  keep : KeepT base w0 wr

theorem PushRel.next {w0 : World} {base Z H b : Nat} {ep : Int} {s : St} {done rest : List Frag} {g : Frag} {A A2 : Option Addr} {c c2 : Nat} {w4 wx : World} (h : PushRel w0 base Z H b ep s done (g :: rest) A c w4)
    (hb : BufAt wx base Z (stPut ep (done.foldl (stPut ep) s) g)) (hk : KeepT base w4 wx) (hat : 0 < (rest.flatMap enc).length → ∃ o, A2 = some ⟨b, o, none⟩ ∧ BytAt w4 b o (rest.flatMap enc)) (hc : (rest.flatMap enc).length ≤ c2) :
    PushRel w0 base Z H b ep s (done ++ [g]) rest A2 c2 wx := by
  have e : (done ++ [g]).foldl (stPut ep) s = stPut ep (done.foldl (stPut ep) s) g := by rw [List.foldl_append]; rfl
  obtain ⟨cells, m, h5⟩ := h.blk
  obtain ⟨l1, h91⟩ := h.hdb
  have k5 := hk.kind b cells 5 m h5 (by decide) (by decide) (by decide)
  have k91 := hk.kind H l1 91 (0, 0) h91 (by decide) (by decide) (by decide)
  refine ⟨by rw [e]; exact hb, by rw [e]; exact h.ok.2, fun hp => ?_, hc, ⟨cells, m, k5.trans h5⟩, (World.cell?_of_block (a := ⟨H, 4, none⟩) k91).trans h.hd, ⟨l1, k91.trans h91⟩, h.keep.trans hk⟩
  obtain ⟨o, e1, e2⟩ := hat hp
  exact ⟨o, e1, e2.move k5⟩

set_option maxRecDepth 100000 in
set_option maxHeartbeats 20000000 in
set_option linter.unusedSimpArgs false in
theorem push_any (Z base b o c : Nat) (ep : Int) (s : St) (gs : List Frag) (l : List Int) (w : World) (hbuf : BufAt w base Z s) (hr : BytAt w b o l) (hby : Byt l) (hb5 : ∃ cells m, w.heap[b]? = some (.cells cells 5 m)) (hc : l.length ≤ c) (h13 : 13 < l.length) (hlen : l.length ≤ 100000)
    (e0 : l.getD 0 0 = 22) (e1 : l.getD 1 0 = 254) (e2 : l.getD 2 0 = 253) (hep : Lib.beZ ((l.drop 3).take 2) = ep) (hd : l.drop 13 = gs.flatMap enc) (hgl : GL w) (hbase : base ≤ w.heap.size) (h5 : 5 < base) (ok : AllOk ep s gs) (hs0 : 0 ≤ s.size) (hs1 : s.size ≤ 1000000) (hcur : s.cur < 65536) :
    Calls Tryd.prog 31 #[.pointer (some ⟨Z, 0, none⟩), .slice (some ⟨b, o, none⟩) l.length c] w fun e w' => e = .returned (.tuple #[.bool true, .bool (againOf s.cur gs), .nilIface]) ∧ BufAt w' base Z (gs.foldl (stPut ep) s) ∧ KeepT base w w' := by
  obtain ⟨M0, xs0, hx0, hms0⟩ := hbuf
  have z0 := cellB hx0.z 0
  have z1 := cellB hx0.z 1
  have z2 := cellB hx0.z 2
  have z3 := cellB hx0.z 3
  simp only [List.getElem?_cons_zero, List.getElem?_cons_succ] at z0 z1 z2 z3
  have HX0 : Aside0 (BufAt w base Z s) := ⟨⟨M0, xs0, hx0, hms0⟩⟩
  have HR := Aside0.mk hr
  have HBY := Aside0.mk hby
  have HB5 := Aside0.mk hb5
  have HC := Aside0.mk hc
  have HE0 := Aside0.mk e0
  have HE1 := Aside0.mk e1
  have HE2 := Aside0.mk e2
  have HEP := Aside0.mk hep
  have HD := Aside0.mk hd
  have HGL := Aside0.mk hgl
  have HBASE := Aside0.mk hbase
  have H5 := Aside0.mk h5
  have OK := Aside0.mk ok
  have HCUR := Aside0.mk hcur
  have HLEN := Aside0.mk hlen
  have HBLT : Aside0 (b < w.heap.size) := ⟨hr.blk (by omega)⟩
  have q1 : ¬ (2000000 : Int) ≤ s.size + (l.length : Int) := by omega
  have q2 : decide ((2000000 : Int) ≤ s.size + (l.length : Int)) = false := decide_eq_false q1
  have q3 : IntKind.i64.wrap (s.size + (l.length : Int)) = s.size + (l.length : Int) := by rw [IntKind.wrap_i64]; omega
  have q4 : (13 : Int) ≤ (l.length : Int) := by omega
  clear hx0 hms0 hr hby hb5 e0 e1 e2 hep hd hgl hbase h5 ok hcur
  go_enter Tryd.func31, Tryd.ntmps31
  go_wp2_with fail
  refine (size_any Z s.size w z2).mono ?_
  rintro e w1 ⟨rfl, hb1⟩
  have HB1 := Aside0.mk hb1
  clear hb1
  go_wp2_with fail
  obtain ⟨W, hW⟩ : ∃ W, W = w1.alloc (.cells #[.int .u8 0, .int .u16 0, .int .u8 0, .int .u8 0, .int .u16 0, .int .u64 0, .slice none 0 0] 91) := ⟨_, rfl⟩
  have HBW : Aside0 (Below w1.heap.size w1 W) := ⟨by rw [hW]; exact below_alloc (Below.refl _ w1) _⟩
  have HBW0 : Aside0 (Below w.heap.size w W) := ⟨below_then HB1.out HB1.out.size HBW.out⟩
  have HHB : Aside0 (W.heap[w1.heap.size]? = some (.cells [.int .u8 0, .int .u16 0, .int .u8 0, .int .u8 0, .int .u16 0, .int .u64 0, .slice none 0 0].toArray 91)) := ⟨by rw [hW]; exact blk_new w1 _⟩
  rw [← hW]
  clear hW
  have hlt1 : w.heap.size ≤ w1.heap.size := HB1.out.size
  refine (rl_any w1.heap.size b o l.length c l _ _ _ _ _ _ _ W HHB.out (HR.out.below HBW0.out) (by have := HBLT.out; omega) (by have := HBASE.out; have := H5.out; omega) (HGL.out.below HBW0.out (by have := HGL.out.lt; omega)) rfl HC.out HBY.out (by omega) HE0.out HE1.out HE2.out).mono ?_
  rintro e w2 ⟨rfl, hg2, sq, hh2⟩
  rw [HEP.out] at hh2
  have HB2 : Aside0 (Below w.heap.size w w2) := ⟨⟨hg2.os.trans HBW0.out.os, hg2.tape.trans HBW0.out.tape, hg2.output.trans HBW0.out.output, Nat.le_trans HBW0.out.size hg2.size, fun k hk => (hg2.block k (Nat.lt_of_lt_of_le hk HBW0.out.size) (by simp; omega)).trans (HBW0.out.block k hk)⟩⟩
  have HHB2 := Aside0.mk hh2
  have y0 : w2.cell? ⟨w1.heap.size, 0, none⟩ = some (.int .u8 22) := cellB hh2 0
  have c13 : ¬ c = 13 := by have := HC.out; omega
  generalize w1.heap.size = H at *
  clear hg2 hh2 z0 z1 z2 z3 hlt1 HHB HBW HBW0 HB1
  go_wp2_with fail
  go_loopw [1, 5] (fun v1 v5 wr => ∃ (done todo : List Frag) (A : Option Addr) (c' : Nat), v1 = .slice A (todo.flatMap enc).length c' ∧ v5 = .bool (againOf s.cur done) ∧ Aside0 (done ++ todo = gs) ∧ Aside0 (PushRel w base Z H b ep s done todo A c' wr) ∧ (todo.flatMap enc).length ≤ 100000) (fun v1 _ _ => lenOf v1)
  case atStart =>
    refine ⟨[], gs, some ⟨b, o + 13, none⟩, c - 13, ?_, rfl, ⟨rfl⟩, ⟨⟨HX0.out.below HB2.out, OK.out, fun _ => ⟨o + 13, rfl, ?_⟩, ?_, ?_, cellB HHB2.out 4, ⟨_, HHB2.out⟩, KeepT.of_below HBASE.out HB2.out⟩⟩, ?_⟩
    · rw [← HD.out]; simp
    · rw [← HD.out]; exact (HR.out.below HB2.out).drop 13
    · rw [← HD.out, List.length_drop]; have := HC.out; omega
    · obtain ⟨cells, m, h⟩ := HB5.out
      exact ⟨cells, m, (HB2.out.block b HBLT.out).trans h⟩
    · rw [← HD.out, List.length_drop]; have := HLEN.out; omega
  case round =>
    obtain ⟨done, todo, A, c', rfl, rfl, hgs, hrel, hl5⟩ := hrel
    cases todo with
    | nil =>
      have hn0 : (([] : List Frag).flatMap enc).length = 0 := rfl
      rw [hn0]
      go_wp2_with fail
      go_ret3
      have e : done = gs := by rw [← hgs.out, List.append_nil]
      subst e
      exact ⟨rfl, hrel.out.buf, hrel.out.keep⟩
    | cons g rest =>
      have hlE : ((g :: rest).flatMap enc).length = 12 + g.dat.length + (rest.flatMap enc).length := by rw [enc_all, List.length_append, enc_len]
      obtain ⟨o1, hA, hat⟩ := hrel.out.at_ (by omega)
      subst hA
      have hcap := hrel.out.cap
      obtain ⟨hok1, hok2⟩ := hrel.out.ok
      have hfit := hok1.fits
      rw [enc_all] at hat
      have HAT := Aside0.mk hat
      have HFIT := Aside0.mk hfit
      have HOK1 := Aside0.mk hok1
      have HOK2 := Aside0.mk hok2
      have HBYT : Aside0 (Byt (enc g ++ rest.flatMap enc)) := ⟨by
        have h1 := HBY.out.drop 13
        rw [HD.out, ← hgs.out, List.flatMap_append, enc_all] at h1
        intro z hz
        exact h1 z (List.mem_append_right _ hz)⟩
      generalize hN : ((g :: rest).flatMap enc).length = N at *
      generalize hR : (rest.flatMap enc).length = R at *
      generalize hDL : g.dat.length = DL at *
      have HNE := Aside0.mk hN
      have HRE := Aside0.mk hR
      have HDL := Aside0.mk hDL
      have HLE := Aside0.mk hlE
      have p0 : ¬ (N : Int) = 0 := by omega
      have hb5' := hrel.out.blk
      have hbk : b < wr.heap.size := by obtain ⟨cells, m, h⟩ := hb5'; exact ltB h
      have HBK := Aside0.mk hbk
      have HCAP := Aside0.mk hcap
      clear hat hfit hok1 hok2 hN hR hDL hb5' hbk hcap hlE
      go_wp2_with fail
      obtain ⟨W, hW⟩ : ∃ W, W = wr.alloc (.cells #[.int .u8 0, .int .u32 0, .int .u16 0, .int .u32 0, .int .u32 0] 96) := ⟨_, rfl⟩
      have HBW : Aside0 (Below wr.heap.size wr W) := ⟨by rw [hW]; exact below_alloc (Below.refl _ wr) _⟩
      have HHB : Aside0 (W.heap[wr.heap.size]? = some (.cells [.int .u8 0, .int .u32 0, .int .u16 0, .int .u32 0, .int .u32 0].toArray 96)) := ⟨by rw [hW]; exact blk_new wr _⟩
      rw [← hW]
      clear hW
      refine (hs_any wr.heap.size b o1 N c' (enc g ++ rest.flatMap enc) _ _ _ _ _ W HHB.out (HAT.out.below HBW.out) (by have := HBK.out; omega) (by rw [← HNE.out, enc_all]) HCAP.out HBYT.out (by have := HLE.out; omega)).mono ?_
      rintro e w3 ⟨rfl, hg3, hh3⟩
      rw [enc_typ, enc_msg g _ HFIT.out, enc_seq g _ HFIT.out, enc_off g _ HFIT.out, enc_cnt g _ HFIT.out, HDL.out] at hh3
      have HB3 : Aside0 (Below wr.heap.size wr w3) := ⟨⟨hg3.os.trans HBW.out.os, hg3.tape.trans HBW.out.tape, hg3.output.trans HBW.out.output, Nat.le_trans HBW.out.size hg3.size, fun k hk => (hg3.block k (Nat.lt_of_lt_of_le hk HBW.out.size) (by simp; omega)).trans (HBW.out.block k hk)⟩⟩
      have HH3 := Aside0.mk hh3
      have HH2 : Aside0 (wr.heap.size < w3.heap.size) := ⟨ltB hh3⟩
      have HREL : Aside0 (PushRel w base Z H b ep s done (g :: rest) (some ⟨b, o1, none⟩) c' w3) := ⟨by
        have h := hrel.out
        obtain ⟨cells, m, h1⟩ := h.blk
        obtain ⟨l1, h2⟩ := h.hdb
        refine ⟨h.buf.below HB3.out, h.ok, fun hp => ?_, h.cap, ⟨cells, m, (HB3.out.block b HBK.out).trans h1⟩, pw_cell_below HB3.out h.hd, ⟨l1, (HB3.out.block H (ltB h2)).trans h2⟩, h.keep.trans (KeepT.of_below (Nat.le_trans HBASE.out h.keep.below.size) HB3.out)⟩
        obtain ⟨o2, e1, e2⟩ := h.at_ hp
        exact ⟨o2, e1, e2.below HB3.out⟩⟩
      have HWR : Aside0 (base ≤ wr.heap.size) := ⟨Nat.le_trans HBASE.out hrel.out.keep.below.size⟩
      have HAT3 : Aside0 (BytAt w3 b o1 (enc g ++ rest.flatMap enc)) := ⟨HAT.out.below HB3.out⟩
      clear hg3 hh3 hrel HBW HHB HAT
      generalize hH2 : wr.heap.size = H2 at *
      have HH2E := Aside0.mk hH2
      obtain ⟨M, xs, hx, hms⟩ := HREL.out.buf
      have hcu : (done.foldl (stPut ep) s).cur = s.cur := fold_cur ep done s
      rw [hcu] at hx
      have HST : Aside0 (sts xs = (done.foldl (stPut ep) s).ms) := ⟨hms⟩
      have HX := Aside0.mk hx
      generalize hsz : (done.foldl (stPut ep) s).size = SZ at *
      generalize hct : (done.foldl (stPut ep) s).count = CT at *
      have HSZ := Aside0.mk hsz
      have HCT := Aside0.mk hct
      have z1 : w3.cell? ⟨Z, 1, none⟩ = some (.int .u16 s.cur) := cellB hx.z 1
      have k2 : w3.cell? ⟨H2, 2, none⟩ = some (.int .u16 g.seq) := cellB HH3.out 2
      have k3 : w3.cell? ⟨H2, 3, none⟩ = some (.int .u32 g.off) := cellB HH3.out 3
      have HCU := Aside0.mk hcu
      clear hx hms hcu hsz hct hH2
      go_upto_region 15 with fail
      go_cut [5] (fun r wx => r = .bool (decide (g.off = 0) && decide (g.seq < s.cur)) ∧ ∃ q, wx = w3.drewN q)
      case first =>
        as_aux_lemma =>
          by_cases ho : g.off = 0
          · have hoi : (g.off : Int) = 0 := by omega
            by_cases hq : g.seq < s.cur
            · have hqi : (g.seq : Int) < (s.cur : Int) := by omega
              have e : (decide (g.off = 0) && decide (g.seq < s.cur)) = true := by simp [ho, hq]
              have HE := Aside0.mk e
              clear e ho
              go_quiet (fail)
              go_wp2_with fail
              go_meet
              exact ⟨by rw [HE.out], _, rfl⟩
            · have hqi : ¬ (g.seq : Int) < (s.cur : Int) := by omega
              have hqd : decide ((g.seq : Int) < (s.cur : Int)) = false := decide_eq_false hqi
              have e : (decide (g.off = 0) && decide (g.seq < s.cur)) = false := by simp [hq]
              have HE := Aside0.mk e
              clear e ho
              go_quiet (fail)
              go_wp2_with fail
              go_meet
              exact ⟨by rw [HE.out], _, rfl⟩
          · have hoi : ¬ (g.off : Int) = 0 := by omega
            have hod : decide ((g.off : Int) = 0) = false := decide_eq_false hoi
            have hob : ((g.off : Int) == 0) = false := by simp [ho]
            have hon : ((g.off : Nat) == 0) = false := by simp [ho]
            have hond : decide (g.off = 0) = false := decide_eq_false ho
            have e : (decide (g.off = 0) && decide (g.seq < s.cur)) = false := by simp [ho]
            have HE := Aside0.mk e
            clear e
            go_quiet (fail)
            go_wp2_with fail
            go_meet
            exact ⟨by rw [HE.out], _, rfl⟩
      case rest =>
        obtain ⟨hr5, q15, rfl⟩ := hcut
        rw [hr5]
        clear hr5
        generalize hrv : (decide (g.off = 0) && decide (g.seq < s.cur)) = RV
        have HRV := Aside0.mk hrv
        clear hrv
        have HB4 : Aside0 (Below H2 wr (w3.drewN q15)) := ⟨HB3.out.trans (pw_below_drewN (Below.refl _ w3) q15)⟩
        have z1' : (w3.drewN q15).cell? ⟨Z, 1, none⟩ = some (.int .u16 s.cur) := z1
        have k0' : (w3.drewN q15).cell? ⟨H2, 0, none⟩ = some (.int .u8 g.typ) := cellB HH3.out 0
        have k1' : (w3.drewN q15).cell? ⟨H2, 1, none⟩ = some (.int .u32 g.len) := cellB HH3.out 1
        have k2' : (w3.drewN q15).cell? ⟨H2, 2, none⟩ = some (.int .u16 g.seq) := k2
        have k3' : (w3.drewN q15).cell? ⟨H2, 3, none⟩ = some (.int .u32 g.off) := k3
        have k4' : (w3.drewN q15).cell? ⟨H2, 4, none⟩ = some (.int .u32 DL) := cellB HH3.out 4
        have hdl : DL < 16777216 := by have := HFIT.out.fit; have := HFIT.out.len; have := HDL.out; omega
        have r1 : IntKind.u32.wrap (12 + (DL : Int)) = 12 + (DL : Int) := by rw [IntKind.wrap_u32]; omega
        have r2 : IntKind.i64.wrap (12 + (DL : Int)) = 12 + (DL : Int) := by rw [IntKind.wrap_i64]; omega
        have r3 : ¬ (N : Int) < 12 + (DL : Int) := by have := HLE.out; omega
        have r3d : decide ((N : Int) < 12 + (DL : Int)) = false := decide_eq_false r3
        have r4 : (12 : Int) + (DL : Int) ≤ (N : Int) := by omega
        have HX4 : Aside0 (BufX (w3.drewN q15) base Z M xs s.cur SZ CT) := ⟨HX.out.below (pw_below_drewN (Below.refl _ w3) q15)⟩
        have HREL4 : Aside0 (PushRel w base Z H b ep s done (g :: rest) (some ⟨b, o1, none⟩) c' (w3.drewN q15)) := ⟨by
          have h := HREL.out
          refine ⟨h.buf.below (pw_below_drewN (Below.refl _ w3) q15), h.ok, fun hp => ?_, h.cap, h.blk, h.hd, h.hdb, h.keep.trans (KeepT.of_below (Nat.le_trans HBASE.out h.keep.below.size) (pw_below_drewN (Below.refl _ w3) q15))⟩
          obtain ⟨o2, e1, e2⟩ := h.at_ hp
          exact ⟨o2, e1, e2⟩⟩
        have HH4 : Aside0 ((w3.drewN q15).heap[H2]? = w3.heap[H2]?) := ⟨rfl⟩
        have HHH4 : Aside0 ((w3.drewN q15).heap[H2]? = some (.cells [.int .u8 g.typ, .int .u32 g.len, .int .u16 g.seq, .int .u32 g.off, .int .u32 DL].toArray 96)) := ⟨HH3.out⟩
        have HAT4 : Aside0 (BytAt (w3.drewN q15) b o1 (enc g ++ rest.flatMap enc)) := ⟨fun i hi => HAT3.out i hi⟩
        clear z1 k2 k3 HH3 HB3 HX HREL HH4 HAT3
        generalize w3.drewN q15 = w4 at *
        go_upto_region 19 with fail
        go_cut [12] (fun d wx => ∃ (A1 : Option Addr) (c1 : Nat), d = .slice A1 DL c1 ∧ wx = w4 ∧ Aside0 (DatAt w4 (.slice A1 DL c1) g.dat))
        case first =>
          as_aux_lemma =>
            have r5 : (12 : Int) + (DL : Int) ≤ (c' : Int) := by have := HLE.out; have := HCAP.out; omega
            have HD12 : Aside0 (BytAt w4 b (o1 + 12) g.dat) := ⟨by
              have h := (HAT4.out.drop 12).take g.dat.length
              rw [enc_dat, List.take_left] at h
              exact h⟩
            by_cases hc12 : c' = 12
            · have hdz : DL = 0 := by omega
              have HDZ := Aside0.mk hdz
              subst hc12
              clear hdz
              go_wp2_with fail
              go_meet
              exact ⟨_, _, rfl, rfl, ⟨⟨_, _, by rw [HDL.out], by rw [HDL.out, HDZ.out]; omega, fun hp => absurd hp (by rw [HDL.out, HDZ.out]; omega)⟩⟩⟩
            · go_wp2_with fail
              go_meet
              refine ⟨_, _, rfl, rfl, ⟨⟨_, _, by rw [HDL.out], by rw [HDL.out]; omega, fun hp => ⟨b, o1 + 12, rfl, HD12.out, HREL4.out.blk⟩⟩⟩⟩
        case rest =>
          obtain ⟨A1, c1, rfl, hwc, HDAT⟩ := hcut
          rw [hwc]
          clear hwc
          go_upto_region 20 with fail
          go_cut [1] (fun d wx => ∃ (A2 : Option Addr) (c2 : Nat), d = .slice A2 R c2 ∧ wx = w4 ∧ Aside0 ((0 < R → ∃ o, A2 = some ⟨b, o, none⟩ ∧ BytAt w4 b o (rest.flatMap enc)) ∧ R ≤ c2))
          case first =>
            as_aux_lemma =>
              have r5 : (12 : Int) + (DL : Int) ≤ (c' : Int) := by have := HLE.out; have hcap := HCAP.out; omega
              have HRN : Aside0 (N - (12 + DL) = R) := ⟨by have := HLE.out; omega⟩
              have HD20 : Aside0 (BytAt w4 b (o1 + (12 + DL)) (rest.flatMap enc)) := ⟨by
                have h := HAT4.out.drop (12 + g.dat.length)
                rw [enc_rest, HDL.out] at h
                exact h⟩
              by_cases hc12 : c' = 12 + DL
              · have HRZ : Aside0 (R = 0) := ⟨by have := HLE.out; have hcap := HCAP.out; omega⟩
                subst hc12
                go_wp2_with fail
                go_meet
                exact ⟨_, _, by rw [HRN.out], rfl, ⟨fun h => absurd h (by have := HRZ.out; omega), by have := HRZ.out; omega⟩⟩
              · go_wp2_with fail
                go_meet
                refine ⟨_, _, by rw [HRN.out], rfl, ⟨fun _ => ⟨_, rfl, HD20.out⟩, by have := HRN.out; have := HCAP.out; omega⟩⟩
          case rest =>
            obtain ⟨A2, c2, rfl, hwc, HAT2⟩ := hcut
            rw [hwc]
            clear hwc
            go_upto_region 21 with fail
            by_cases hq : g.seq < s.cur
            · have hqi : (g.seq : Int) < (s.cur : Int) := by omega
              have HPUT : Aside0 (stPut ep (done.foldl (stPut ep) s) g = done.foldl (stPut ep) s) := ⟨stPut_old _ _ _ (by rw [HCU.out]; exact hq)⟩
              go_quiet (fail)
              have HN : Aside0 (PushRel w base Z H b ep s (done ++ [g]) rest A2 c2 (w4.drewN nq)) := ⟨HREL4.out.next (by rw [HPUT.out]; exact HREL4.out.buf.below (pw_below_drewN (Below.refl _ w4) nq)) (KeepT.of_below (Nat.le_trans HBASE.out HREL4.out.keep.below.size) (pw_below_drewN (Below.refl _ w4) nq)) (by rw [HRE.out]; exact HAT2.out.1) (by rw [HRE.out]; exact HAT2.out.2)⟩
              go_wp2_with fail
              go_roundw
              case rel =>
                exact ⟨done ++ [g], rest, A2, c2, by rw [HRE.out], by rw [againOf_snoc, HRV.out], ⟨by rw [List.append_assoc]; exact hgs.out⟩, HN, by rw [HRE.out]; have := HLE.out; omega⟩
              case measure =>
                simp [lenOf]
                have := HLE.out
                omega
            · have hqd : decide ((g.seq : Int) < (s.cur : Int)) = false := decide_eq_false (by omega)
              have hfl := HFIT.out.len
              have hff := HFIT.out.fit
              have f1 : decide ((g.len : Int) < (g.off : Int)) = false := decide_eq_false (by omega)
              have f2 : IntKind.u32.wrap ((g.len : Int) - (g.off : Int)) = (g.len : Int) - (g.off : Int) := by rw [IntKind.wrap_u32]; omega
              have f3 : decide ((g.len : Int) - (g.off : Int) < (DL : Int)) = false := decide_eq_false (by have := HDL.out; omega)
              have f1n : ¬ g.len < g.off := by omega
              have f1d : decide (g.len < g.off) = false := decide_eq_false f1n
              have hqn : decide (g.seq < s.cur) = false := decide_eq_false hq
              have f3n : ¬ (g.len : Int) - (g.off : Int) < (DL : Int) := of_decide_eq_false f3
              have HQ := Aside0.mk hq
              clear hfl hff
              go_quiet (fail)
              have HB5' : Aside0 (Below w4.heap.size w4 (w4.drewN nq)) := ⟨pw_below_drewN (Below.refl _ w4) nq⟩
              have HX5 : Aside0 (BufX (w4.drewN nq) base Z M xs s.cur SZ CT) := ⟨HX4.out.below HB5'.out⟩
              have HHH5 : Aside0 ((w4.drewN nq).heap[H2]? = some (.cells [.int .u8 g.typ, .int .u32 g.len, .int .u16 g.seq, .int .u32 g.off, .int .u32 DL].toArray 96)) := ⟨HHH4.out⟩
              have HREL5 : Aside0 (PushRel w base Z H b ep s done (g :: rest) (some ⟨b, o1, none⟩) c' (w4.drewN nq)) := ⟨by
                have h := HREL4.out
                refine ⟨h.buf.below HB5'.out, h.ok, fun hp => ?_, h.cap, h.blk, h.hd, h.hdb, h.keep.trans (KeepT.of_below (Nat.le_trans HBASE.out h.keep.below.size) HB5'.out)⟩
                obtain ⟨o2, e1, e2⟩ := h.at_ hp
                exact ⟨o2, e1, e2⟩⟩
              have HDAT5 : Aside0 (DatAt (w4.drewN nq) (.slice A1 DL c1) g.dat) := ⟨HDAT.out.below HB5'.out⟩
              have HAT5 : Aside0 ((0 < R → ∃ o, A2 = some ⟨b, o, none⟩ ∧ BytAt (w4.drewN nq) b o (rest.flatMap enc)) ∧ R ≤ c2) := ⟨HAT2.out⟩
              clear z1' k0' k1' k2' k3' k4' f1 f1n f1d f2 f3 f3n hqd hqn hq HX4 HHH4 HREL4 HDAT HAT2 HB5' HAT4 HB4
              generalize w4.drewN nq = w5 at *
              go_upto_region 22 with fail
              have z0' : w5.cell? ⟨Z, 0, none⟩ = some (.map (some M)) := cellB HX5.out.z 0
              have k2' : w5.cell? ⟨H2, 2, none⟩ = some (.int .u16 g.seq) := cellB HHH5.out 2
              have hlook : (Instr.lookup 84 (.map (some M)) (.int .u16 g.seq) true).run Tryd.prog w5.drew = .ok (.tuple #[(look (g.seq : Int) (keys xs)).getD (.pointer none), .bool (look (g.seq : Int) (keys xs)).isSome]) w5.drew := (HX5.out.below (below_drew (Below.refl _ w5))).look g.seq HFIT.out.seq
              generalize hpv : (look (g.seq : Int) (keys xs)).getD (.pointer none) = PV at *
              generalize hqv : (look (g.seq : Int) (keys xs)).isSome = QV at *
              have HPV := Aside0.mk hpv
              have HQV := Aside0.mk hqv
              clear hpv hqv
              go_cut [13, 14] (fun p q wx => p = PV ∧ q = .bool QV ∧ wx = w5.drew)
              case first =>
                as_aux_lemma =>
                  go_region
                  all_goals (go_wp2_with fail; go_meet; exact ⟨rfl, rfl, rfl⟩)
              case rest =>
                obtain ⟨hp, hq', hwc⟩ := hcut
                rw [hwc, hp, hq']
                clear hwc hp hq' hlook
                have HGO : Aside0 ((∀ f, lookF g.seq (sts xs) = some f → OkF f g) ∧ 0 ≤ CT ∧ CT ≤ 999 ∧ 0 ≤ SZ ∧ SZ ≤ 1000000) := ⟨by
                  have h := HOK1.out.go (by rw [HCU.out]; exact HQ.out)
                  rw [HSZ.out, HCT.out, ← HST.out] at h
                  exact h⟩
                have k0' : w5.cell? ⟨H2, 0, none⟩ = some (.int .u8 g.typ) := cellB HHH5.out 0
                have k1' : w5.cell? ⟨H2, 1, none⟩ = some (.int .u32 g.len) := cellB HHH5.out 1
                go_upto_if 106 with fail
                go_cut [13] (fun p wx => ∃ (F : Nat) (f : Fr) (v : Value), p = .pointer (some ⟨F, 0, none⟩) ∧ Aside0 (MidF w5 base xs g F f v QV wx))
                case first =>
                  as_aux_lemma =>
                    cases hl : lookF g.seq (sts xs) with
                    | none =>
                      have e1 : PV = .pointer none := by rw [← HPV.out, lookF_none hl]; rfl
                      have e2 : QV = false := by rw [← HQV.out, lookF_none hl]; rfl
                      have HL := Aside0.mk hl
                      clear hl
                      subst e1 e2
                      go_wp2_with fail
                      go_meet
                      refine ⟨w5.heap.size, frNew g, .slice none 0 0, rfl, ⟨?_, ?_, okF_new g, ?_, Or.inr ⟨rfl, Nat.le_refl _, rfl, rfl, HL.out⟩⟩⟩
                      · exact blk_new w5.drew _
                      · exact RowAt.nil _ _
                      · exact below_alloc (w := w5) (below_drew (Below.refl _ w5)) _
                    | some f =>
                      obtain ⟨a', x, b', hx1, hx2, hx3, hx4, hx5⟩ := lookF_some hl
                      have e1 : PV = .pointer (some ⟨x.F, 0, none⟩) := by rw [← HPV.out, hx5]; rfl
                      have e2 : QV = true := by rw [← HQV.out, hx5]; rfl
                      have hokf := HGO.out.1 f hl
                      obtain ⟨x1, x2, x3⟩ := HX5.out.fr x (by rw [hx1]; simp)
                      have j2 : w5.cell? ⟨x.F, 2, none⟩ = some (.int .u8 g.typ) := by rw [cellB x2 2, hx3, ← hokf.typ]; rfl
                      have j3 : w5.cell? ⟨x.F, 3, none⟩ = some (.int .u32 g.len) := by rw [cellB x2 3, hx3, ← hokf.len]; rfl
                      have HMID : Aside0 (∀ n, MidF w5 base xs g x.F f x.v true (w5.drew.drewN n)) := ⟨fun n => ⟨by rw [← hx3]; exact x2, by rw [← hx3]; exact x3.below (Below.trans (below_drew (Below.refl _ w5)) (pw_below_drewN (Below.refl _ w5.drew) n)), hokf, Below.trans (below_drew (Below.refl _ w5)) (pw_below_drewN (Below.refl _ w5.drew) n), Or.inl ⟨rfl, a', x, b', hx1, hx2, rfl, rfl, hx3, hl, hx4⟩⟩⟩
                      clear hl hx1 hx2 hx3 hx4 hx5 hokf x1 x2 x3
                      subst e1 e2
                      go_wp2_with fail
                      go_quiet (fail)
                      go_wp2_with fail
                      go_meet
                      exact ⟨_, _, _, rfl, ⟨HMID.out _⟩⟩
                case rest =>
                  obtain ⟨F, f, v, hp, HMID⟩ := hcut
                  rw [hp]
                  clear hp z0' k0' k1' k2'
                  generalize wc = w6 at *
                  have HH6 : Aside0 (w6.heap[H2]? = some (.cells [.int .u8 g.typ, .int .u32 g.len, .int .u16 g.seq, .int .u32 g.off, .int .u32 DL].toArray 96)) := ⟨(HMID.out.bel.block H2 (ltB HHH5.out)).trans HHH5.out⟩
                  have HZ6 : Aside0 (w6.heap[Z]? = some (.cells [.map (some M), .int .u16 s.cur, .int .i64 SZ, .int .i64 CT].toArray 86)) := ⟨(HMID.out.bel.block Z (ltB HX5.out.z)).trans HX5.out.z⟩
                  have HB5S : Aside0 (base ≤ w5.heap.size) := ⟨Nat.le_trans HBASE.out HREL5.out.keep.below.size⟩
                  have HADD : Aside0 (Calls Tryd.prog 41 #[.pointer (some ⟨F, 0, none⟩), .int .u32 g.off, .slice A1 DL c1, .int .i64 (1000 - CT)] w6.drew fun e w' => e = .returned (.tuple #[.int .i64 (newC f g), .int .i64 (newB f g), .nilIface]) ∧ PutPost w6.drew F v base f g w') := ⟨by
                    have hgo := HGO.out.2
                    have h := add_any F f g v A1 c1 (1000 - CT) base w6.drew HMID.out.okf HFIT.out HMID.out.fb (HMID.out.row.below (below_drew (Below.refl _ w6))) (by omega) (by omega) (Nat.le_trans HB5S.out HMID.out.bel.size) (by rw [HDL.out]; exact (HDAT5.out.below HMID.out.bel).below (below_drew (Below.refl _ w6)))
                    rw [HDL.out] at h
                    exact h⟩
                  go_upto_region 26 with fail
                  go_cut [15, 16, 17] (fun a b' e wx => a = .int .i64 (newC f g) ∧ b' = .int .i64 (newB f g) ∧ e = .nilIface ∧ Aside0 (PutPost w6.drew F v base f g wx))
                  case first =>
                    have z3' : w6.cell? ⟨Z, 3, none⟩ = some (.int .i64 CT) := cellB HZ6.out 3
                    have k3' : w6.cell? ⟨H2, 3, none⟩ = some (.int .u32 g.off) := cellB HH6.out 3
                    have f1 : IntKind.i64.wrap (1000 - CT) = 1000 - CT := by have hgo := HGO.out.2; rw [IntKind.wrap_i64]; omega
                    have HZA := Aside0.mk (HMID.out.z_apart HX5.out)
                    have HHA : Aside0 (H2 ≠ F ∧ some H2 ≠ v.ownBlock) := ⟨HMID.out.apart HX5.out H2 (ltB HHH5.out) (fun l e => by rw [HHH5.out] at e; injection e with e; injection e with _ e; exact absurd e (by decide)) (fun l e => by rw [HHH5.out] at e; injection e with e; injection e with _ e; exact absurd e (by decide))⟩
                    clear HX5 HMID HREL5 HAT5 HDAT5 HHH5 HGO
                    refine wp_region_held_drew (S := fun w' => w'.cell? ⟨Z, 3, none⟩ = some (.int .i64 CT) ∧ w'.cell? ⟨H2, 3, none⟩ = some (.int .u32 g.off)) (by kernel_rfl) ⟨z3', k3'⟩ (fun hHeld => ?_)
                    refine wpAnyH_take (i := 0) (v := ?v201) rfl (by kernel_rfl) (by kernel_rfl) (by kernel_rfl) (fun _ _ _ h => h) (Or.inl ⟨by rfl, ?h201⟩) (by assumption) ?r201
                    case h201 => intro w hSw; (try dsimp only at hSw); go_simp; (try with_reducible rfl)
                    try simp only [Act.put, List.setIfInBounds_toArray, List.set_cons_zero, List.set_cons_succ]
                    refine wpAnyH_take (i := 1) (v := ?v202) rfl (by kernel_rfl) (by kernel_rfl) (by kernel_rfl) (fun _ _ _ h => h) (Or.inl ⟨by rfl, ?h202⟩) (by assumption) ?r202
                    case h202 => intro w hSw; (try dsimp only at hSw); go_simp; (try with_reducible rfl)
                    try simp only [Act.put, List.setIfInBounds_toArray, List.set_cons_zero, List.set_cons_succ]
                    refine wpAnyH_take (i := 2) (v := ?v203) rfl (by kernel_rfl) (by kernel_rfl) (by kernel_rfl) (fun _ _ _ h => h) (Or.inl ⟨by rfl, ?h203⟩) (by assumption) ?r203
                    case h203 => intro w hSw; (try dsimp only at hSw); go_simp; (try with_reducible rfl)
                    try simp only [Act.put, List.setIfInBounds_toArray, List.set_cons_zero, List.set_cons_succ]
                    refine wpAnyH_take (i := 3) (v := ?v204) rfl (by kernel_rfl) (by kernel_rfl) (by kernel_rfl) (fun _ _ _ h => h) (Or.inl ⟨by rfl, ?h204⟩) (by assumption) ?r204
                    case h204 => intro w hSw; (try dsimp only at hSw); go_simp; (try with_reducible rfl)
                    try simp only [Act.put, List.setIfInBounds_toArray, List.set_cons_zero, List.set_cons_succ]
                    refine wpAnyH_take (i := 4) (v := ?v205) rfl (by kernel_rfl) (by kernel_rfl) (by kernel_rfl) (fun _ _ _ h => h) (Or.inl ⟨by rfl, ?h205⟩) (by assumption) ?r205
                    case h205 => intro w hSw; (try dsimp only at hSw); go_simp; (try with_reducible rfl)
                    try simp only [Act.put, List.setIfInBounds_toArray, List.set_cons_zero, List.set_cons_succ]
                    refine wpAnyH_take (i := 5) (v := ?v206) rfl (by kernel_rfl) (by kernel_rfl) (by kernel_rfl) (fun _ _ _ h => h) (Or.inl ⟨by rfl, ?h206⟩) (by assumption) ?r206
                    case h206 => intro w hSw; (try dsimp only at hSw); go_simp; (try with_reducible rfl)
                    try simp only [Act.put, List.setIfInBounds_toArray, List.set_cons_zero, List.set_cons_succ]
                    refine wpAnyH_take (i := 6) (v := ?v207) rfl (by kernel_rfl) (by kernel_rfl) (by kernel_rfl) (fun _ _ _ h => h) (Or.inl ⟨by rfl, ?h207⟩) (by assumption) ?r207
                    case h207 => intro w hSw; (try dsimp only at hSw); go_simp; (try with_reducible rfl)
                    try simp only [Act.put, List.setIfInBounds_toArray, List.set_cons_zero, List.set_cons_succ]
                    refine wpAnyH_take (i := 7) (v := ?v208) rfl (by kernel_rfl) (by kernel_rfl) (by kernel_rfl) (fun _ _ _ h => h) (Or.inl ⟨by rfl, ?h208⟩) (by assumption) ?r208
                    case h208 => intro w hSw; (try dsimp only at hSw); go_simp; (try with_reducible rfl)
                    try simp only [Act.put, List.setIfInBounds_toArray, List.set_cons_zero, List.set_cons_succ]
                    refine wpAnyH_take (i := 8) (v := ?v209) rfl (by kernel_rfl) (by kernel_rfl) (by kernel_rfl) (fun _ _ _ h => h) (Or.inl ⟨by rfl, ?h209⟩) (by assumption) ?r209
                    case h209 => intro w hSw; (try dsimp only at hSw); go_simp; (try with_reducible rfl)
                    try simp only [Act.put, List.setIfInBounds_toArray, List.set_cons_zero, List.set_cons_succ]
                    refine wpAnyH_ready (rs := [9]) (by kernel_rfl) (by simp) ?_
                    refine AllReadyH.cons rfl (fun K hK => ?_) AllReadyH.nil
                    go_simp
                    go_wp2_with (go_at_call 41; refine HADD.out.mono ?_; rintro e w' ⟨rfl, hp⟩; have o3 : w'.cell? ⟨Z, 3, none⟩ = some (.int .i64 CT) := (World.cell?_of_block (a := ⟨Z, 3, none⟩) (hp.block Z (ltB HZ6.out) HZA.out.1 HZA.out.2)).trans z3'; have o4 : w'.cell? ⟨H2, 3, none⟩ = some (.int .u32 g.off) := (World.cell?_of_block (a := ⟨H2, 3, none⟩) (hp.block H2 (ltB HH6.out) HHA.out.1 HHA.out.2)).trans k3'; have HP := Aside0.mk hp; clear hp)
                    refine hK.out _ _ ⟨o3, o4⟩ (fun hHeld => ?_)
                    clear hK K
                    refine wpAnyH_take (i := 10) (v := ?v210) rfl (by kernel_rfl) (by kernel_rfl) (by kernel_rfl) (fun _ _ _ h => h) (Or.inl ⟨by rfl, ?h210⟩) (by assumption) ?r210
                    case h210 => intro w hSw; (try dsimp only at hSw); go_simp; (try with_reducible rfl)
                    try simp only [Act.put, List.setIfInBounds_toArray, List.set_cons_zero, List.set_cons_succ]
                    refine wpAnyH_take (i := 11) (v := ?v211) rfl (by kernel_rfl) (by kernel_rfl) (by kernel_rfl) (fun _ _ _ h => h) (Or.inl ⟨by rfl, ?h211⟩) (by assumption) ?r211
                    case h211 => intro w hSw; (try dsimp only at hSw); go_simp; (try with_reducible rfl)
                    try simp only [Act.put, List.setIfInBounds_toArray, List.set_cons_zero, List.set_cons_succ]
                    refine wpAnyH_take (i := 12) (v := ?v212) rfl (by kernel_rfl) (by kernel_rfl) (by kernel_rfl) (fun _ _ _ h => h) (Or.inl ⟨by rfl, ?h212⟩) (by assumption) ?r212
                    case h212 => intro w hSw; (try dsimp only at hSw); go_simp; (try with_reducible rfl)
                    try simp only [Act.put, List.setIfInBounds_toArray, List.set_cons_zero, List.set_cons_succ]
                    refine wpAnyH_take (i := 13) (v := ?v213) rfl (by kernel_rfl) (by kernel_rfl) (by kernel_rfl) (fun _ _ _ h => h) (Or.inl ⟨by rfl, ?h213⟩) (by assumption) ?r213
                    case h213 => intro w hSw; (try dsimp only at hSw); go_simp; (try with_reducible rfl)
                    try simp only [Act.put, List.setIfInBounds_toArray, List.set_cons_zero, List.set_cons_succ]
                    refine wpAnyH_ready (rs := [14]) (by kernel_rfl) (by simp) ?_
                    refine AllReadyH.cons rfl (fun K hK => ?_) AllReadyH.nil
                    go_simp
                    refine hK.out _ _ ⟨o3, o4⟩ (fun hHeld => ?_)
                    clear hK K
                    refine wpAnyH_ready (rs := [15]) (by kernel_rfl) (by simp) ?_
                    refine AllReadyH.cons rfl (fun K hK => ?_) AllReadyH.nil
                    go_simp
                    refine hK.out _ _ ⟨o3, o4⟩ (fun hHeld => ?_)
                    clear hK K
                    refine wpAnyH_ready (rs := [16]) (by kernel_rfl) (by simp) ?_
                    refine AllReadyH.cons rfl (fun K hK => ?_) AllReadyH.nil
                    go_simp
                    refine hK.out _ _ ⟨o3, o4⟩ (fun hHeld => ?_)
                    clear hK K
                    refine wpAnyH_done (by kernel_rfl) ?_ _
                    go_wp2_with fail
                    go_meet
                    exact ⟨rfl, rfl, rfl, HP⟩
                  case rest =>
                    obtain ⟨h1, h2, h3, HPP⟩ := hcut
                    rw [h1, h2, h3]
                    clear h1 h2 h3 HADD
                    generalize wc = wq at *
                    obtain ⟨v', hmid⟩ := mid_of HX5.out HMID.out HPP.out
                    have HM1 := Aside0.mk hmid
                    have HH7 : Aside0 (wq.heap[H2]? = some (.cells [.int .u8 g.typ, .int .u32 g.len, .int .u16 g.seq, .int .u32 g.off, .int .u32 DL].toArray 96)) := ⟨by
                      have hap := HMID.out.apart HX5.out H2 (ltB HHH5.out) (fun l e => by rw [HHH5.out] at e; injection e with e; injection e with _ e; exact absurd e (by decide)) (fun l e => by rw [HHH5.out] at e; injection e with e; injection e with _ e; exact absurd e (by decide))
                      exact (HPP.out.block H2 (ltB HH6.out) hap.1 hap.2).trans HH6.out⟩
                    clear hmid HPP HH6 HZ6
                    go_upto_if 147 with fail
                    go_cut [] (fun wx => Aside0 (Mid w5 base Z M s.cur SZ CT (if QV then keys xs else keys xs ++ [((g.seq : Int), .pointer (some ⟨F, 0, none⟩))]) F { f with ps := psOf f g, cov := covOf f g } v v' wx) ∧ Aside0 (wx.heap[H2]? = some (.cells [.int .u8 g.typ, .int .u32 g.len, .int .u16 g.seq, .int .u32 g.off, .int .u32 DL].toArray 96)))
                    case first =>
                      as_aux_lemma =>
                        cases QV with
                        | true =>
                          go_wp2_with fail
                          go_meet
                          exact ⟨HM1, HH7⟩
                        | false =>
                          have hl : lookF g.seq (sts xs) = none := by
                            rcases HMID.out.kind with ⟨h, _⟩ | ⟨_, _, _, _, h⟩
                            · cases h
                            · exact h
                          obtain ⟨wm, hrun, hmap, hgr⟩ := (HM1.out.map.move (w1 := wq.drew) rfl).store (P := Tryd.prog) und84 Tryd.underlying41 (wf16 g.seq HFIT.out.seq) (lookF_none hl) (.pointer (some ⟨F, 0, none⟩))
                          have HM2 : Aside0 (Mid w5 base Z M s.cur SZ CT (keys xs ++ [((g.seq : Int), .pointer (some ⟨F, 0, none⟩))]) F { f with ps := psOf f g, cov := covOf f g } v v' wm) := ⟨(HM1.out.below (below_drew (Below.refl _ wq))).setM hmap hgr⟩
                          have HH8 : Aside0 (wm.heap[H2]? = some (.cells [.int .u8 g.typ, .int .u32 g.len, .int .u16 g.seq, .int .u32 g.off, .int .u32 DL].toArray 96)) := ⟨(hgr.block H2 (ltB (w := wq.drew) HH7.out) (fun e => by injection e with e; exact mapNe HM1.out.map HH7.out e)).trans HH7.out⟩
                          have z0' : wq.cell? ⟨Z, 0, none⟩ = some (.map (some M)) := cellB HM1.out.z 0
                          have k2' : wq.cell? ⟨H2, 2, none⟩ = some (.int .u16 g.seq) := cellB HH7.out 2
                          clear hmap hgr hl HM1 HH7 HMID HX5 HGO
                          go_wp2_with fail
                          go_region
                          all_goals (go_wp2_with fail; go_meet; exact ⟨HM2, HH8⟩)
                    case rest =>
                      obtain ⟨HM2, HH8⟩ := hcut
                      clear HM1 HH7
                      generalize wc = wr' at *
                      go_upto_region 31 with fail
                      have HHE : Aside0 (wr'.cell? ⟨H, 4, none⟩ = some (.int .u16 ep)) := ⟨by
                        obtain ⟨l91, h91⟩ := HREL5.out.hdb
                        have hap := HMID.out.apart HX5.out H (ltB h91) (fun l e => by rw [h91] at e; injection e with e; injection e with _ e; exact absurd e (by decide)) (fun l e => by rw [h91] at e; injection e with e; injection e with _ e; exact absurd e (by decide))
                        have hb := HM2.out.near.block H (ltB h91) (cellsNe h91 HX5.out.z (by decide)) hap.1 (mapNe HX5.out.m h91) hap.2
                        exact (World.cell?_of_block (a := ⟨H, 4, none⟩) hb).trans HREL5.out.hd⟩
                      go_cut [164] (fun t wx => t = .bool (decide (g.off = 0) && !f.has) ∧ wx = wr')
                      case first =>
                        as_aux_lemma =>
                          have k3' : wr'.cell? ⟨H2, 3, none⟩ = some (.int .u32 g.off) := cellB HH8.out 3
                          have h10 : wr'.cell? ⟨F, 10, none⟩ = some (.bool f.has) := cellB HM2.out.fb 10
                          clear HGO HX5 HMID HREL5 HAT5 HDAT5 HHH5
                          by_cases ho : g.off = 0
                          · have hoi : (g.off : Int) = 0 := by omega
                            have e : (decide (g.off = 0) && !f.has) = !f.has := by simp [ho]
                            have HE := Aside0.mk e
                            clear e ho
                            generalize f.has = hs at *
                            go_wp2_with fail
                            go_meet
                            exact ⟨by rw [HE.out], rfl⟩
                          · have hob : ((g.off : Int) == 0) = false := by simp [ho]
                            have hoi : ¬ (g.off : Int) = 0 := by omega
                            have e : (decide (g.off = 0) && !f.has) = false := by simp [ho]
                            have HE := Aside0.mk e
                            clear e
                            go_wp2_with fail
                            go_meet
                            exact ⟨by rw [HE.out], rfl⟩
                      case rest =>
                        obtain ⟨ht, hwc⟩ := hcut
                        rw [ht, hwc]
                        clear ht hwc
                        go_upto_if 164 with fail
                        go_cut [] (fun wx => Aside0 (Mid w5 base Z M s.cur SZ CT (if QV then keys xs else keys xs ++ [((g.seq : Int), .pointer (some ⟨F, 0, none⟩))]) F (frPut ep f g) v v' wx))
                        case first =>
                          as_aux_lemma =>
                            have HHF : Aside0 (F ≠ H) := ⟨by
                              obtain ⟨l91, h91⟩ := HREL5.out.hdb
                              have hap := HMID.out.apart HX5.out H (ltB h91) (fun l e => by rw [h91] at e; injection e with e; injection e with _ e; exact absurd e (by decide)) (fun l e => by rw [h91] at e; injection e with e; injection e with _ e; exact absurd e (by decide))
                              exact fun e => hap.1 e.symm⟩
                            have k0' : wr'.cell? ⟨H2, 0, none⟩ = some (.int .u8 g.typ) := cellB HH8.out 0
                            have k1' : wr'.cell? ⟨H2, 1, none⟩ = some (.int .u32 g.len) := cellB HH8.out 1
                            have k2' : wr'.cell? ⟨H2, 2, none⟩ = some (.int .u16 g.seq) := cellB HH8.out 2
                            have k3' : wr'.cell? ⟨H2, 3, none⟩ = some (.int .u32 g.off) := cellB HH8.out 3
                            have k4' : wr'.cell? ⟨H2, 4, none⟩ = some (.int .u32 DL) := cellB HH8.out 4
                            have ke := HHE.out
                            have h4 : wr'.cell? ⟨F, 4, none⟩ = some (.int .u8 f.h0) := cellB HM2.out.fb 4
                            have h5 : wr'.cell? ⟨F, 5, none⟩ = some (.int .u32 f.h1) := cellB HM2.out.fb 5
                            have h6 : wr'.cell? ⟨F, 6, none⟩ = some (.int .u16 f.h2) := cellB HM2.out.fb 6
                            have h7 : wr'.cell? ⟨F, 7, none⟩ = some (.int .u32 f.h3) := cellB HM2.out.fb 7
                            have h8 : wr'.cell? ⟨F, 8, none⟩ = some (.int .u32 f.h4) := cellB HM2.out.fb 8
                            have h9 : wr'.cell? ⟨F, 9, none⟩ = some (.int .u16 f.ep) := cellB HM2.out.fb 9
                            have h10 : wr'.cell? ⟨F, 10, none⟩ = some (.bool f.has) := cellB HM2.out.fb 10
                            have hf := fun j => frozB HM2.out.fb j
                            clear HGO HX5 HREL5 HAT5 HDAT5 HHH5
                            generalize hcb : (decide (g.off = 0) && !f.has) = CB at *
                            cases CB with
                            | false =>
                              have HP : Aside0 (frPut ep f g = { f with ps := psOf f g, cov := covOf f g }) := ⟨by
                                unfold frPut
                                rw [if_neg (by rintro ⟨e1, e2⟩; rw [e1, e2] at hcb; cases hcb)]⟩
                              clear hcb
                              go_wp2_with fail
                              go_meet
                              rw [HP.out]; exact HM2
                            | true =>
                              have HP : Aside0 (frPut ep f g = ⟨psOf f g, covOf f g, f.typ, f.len, g.typ, g.len, g.seq, g.off, g.dat.length, ep, true⟩) := ⟨by
                                unfold frPut
                                rw [if_pos (by simpa using hcb)]⟩
                              clear hcb
                              go_upto_region 33 with fail
                              have HMa : Aside0 (Mid w5 base Z M s.cur SZ CT (if QV then keys xs else keys xs ++ [((g.seq : Int), .pointer (some ⟨F, 0, none⟩))]) F ⟨psOf f g, covOf f g, f.typ, f.len, g.typ, g.len, g.seq, g.off, DL, f.ep, f.has⟩ v v' (((((wr'.setCell ⟨F, 4, none⟩ (.int .u8 g.typ)).setCell ⟨F, 5, none⟩ (.int .u32 g.len)).setCell ⟨F, 6, none⟩ (.int .u16 g.seq)).setCell ⟨F, 7, none⟩ (.int .u32 g.off)).setCell ⟨F, 8, none⟩ (.int .u32 DL))) := ⟨by
                                have m1 := HM2.out.setF 4 (.int .u8 g.typ) ⟨psOf f g, covOf f g, f.typ, f.len, g.typ, f.h1, f.h2, f.h3, f.h4, f.ep, f.has⟩ rfl rfl
                                have m2 := m1.setF 5 (.int .u32 g.len) ⟨psOf f g, covOf f g, f.typ, f.len, g.typ, g.len, f.h2, f.h3, f.h4, f.ep, f.has⟩ rfl rfl
                                have m3 := m2.setF 6 (.int .u16 g.seq) ⟨psOf f g, covOf f g, f.typ, f.len, g.typ, g.len, g.seq, f.h3, f.h4, f.ep, f.has⟩ rfl rfl
                                have m4 := m3.setF 7 (.int .u32 g.off) ⟨psOf f g, covOf f g, f.typ, f.len, g.typ, g.len, g.seq, g.off, f.h4, f.ep, f.has⟩ rfl rfl
                                exact m4.setF 8 (.int .u32 DL) ⟨psOf f g, covOf f g, f.typ, f.len, g.typ, g.len, g.seq, g.off, DL, f.ep, f.has⟩ rfl rfl⟩
                              have HEa : Aside0 ((((((wr'.setCell ⟨F, 4, none⟩ (.int .u8 g.typ)).setCell ⟨F, 5, none⟩ (.int .u32 g.len)).setCell ⟨F, 6, none⟩ (.int .u16 g.seq)).setCell ⟨F, 7, none⟩ (.int .u32 g.off)).setCell ⟨F, 8, none⟩ (.int .u32 DL)).cell? ⟨H, 4, none⟩ = some (.int .u16 ep)) := ⟨by
                                have hne := HHF.out
                                rw [cell_far _ _ _ _ _ _ hne, cell_far _ _ _ _ _ _ hne, cell_far _ _ _ _ _ _ hne, cell_far _ _ _ _ _ _ hne, cell_far _ _ _ _ _ _ hne]
                                exact HHE.out⟩
                              clear k0' k1' k2' k3' k4' ke h4 h5 h6 h7 h8 h9 h10 hf HM2 HHE HH8
                              generalize (((((wr'.setCell ⟨F, 4, none⟩ (.int .u8 g.typ)).setCell ⟨F, 5, none⟩ (.int .u32 g.len)).setCell ⟨F, 6, none⟩ (.int .u16 g.seq)).setCell ⟨F, 7, none⟩ (.int .u32 g.off)).setCell ⟨F, 8, none⟩ (.int .u32 DL)) = wa at *
                              have ke := HEa.out
                              have h9 : wa.cell? ⟨F, 9, none⟩ = some (.int .u16 f.ep) := cellB HMa.out.fb 9
                              have h10 : wa.cell? ⟨F, 10, none⟩ = some (.bool f.has) := cellB HMa.out.fb 10
                              have hf := fun j => frozB HMa.out.fb j
                              go_upto_region 34 with fail
                              have HMb := Aside0.mk (HMa.out.setF 9 (.int .u16 ep) ⟨psOf f g, covOf f g, f.typ, f.len, g.typ, g.len, g.seq, g.off, DL, ep, f.has⟩ rfl rfl)
                              clear ke h9 h10 hf HMa HEa
                              generalize wa.setCell ⟨F, 9, none⟩ (.int .u16 ep) = wb at *
                              have h10 : wb.cell? ⟨F, 10, none⟩ = some (.bool f.has) := cellB HMb.out.fb 10
                              have hf := fun j => frozB HMb.out.fb j
                              have HMc := Aside0.mk (HMb.out.setF 10 (.bool true) ⟨psOf f g, covOf f g, f.typ, f.len, g.typ, g.len, g.seq, g.off, DL, ep, true⟩ rfl rfl)
                              go_wp2_with fail
                              go_meet
                              rw [HP.out, HDL.out]
                              exact HMc
                        case rest =>
                          have HM3 := hcut
                          clear hcut HM2 HH8 HHE
                          generalize wc = wz at *
                          have hct := HGO.out.2
                          have n1 : 0 ≤ newC f g ∧ newC f g ≤ 1 := by unfold newC; split <;> omega
                          have n2 : 0 ≤ newB f g ∧ newB f g ≤ 16777216 := by have := HFIT.out.fit; have := HFIT.out.len; unfold newB; split <;> omega
                          have f1 : IntKind.i64.wrap (CT + newC f g) = CT + newC f g := by rw [IntKind.wrap_i64]; omega
                          have f2 : IntKind.i64.wrap (SZ + newB f g) = SZ + newB f g := by rw [IntKind.wrap_i64]; omega
                          have z3' : wz.cell? ⟨Z, 3, none⟩ = some (.int .i64 CT) := cellB HM3.out.z 3
                          have zf := fun j => frozB HM3.out.z j
                          clear hct n1 n2
                          go_upto_region 36 with fail
                          have HM4 := Aside0.mk (HM3.out.setZ 3 (.int .i64 (CT + newC f g)) SZ (CT + newC f g) rfl)
                          clear z3' zf HM3
                          generalize wz.setCell ⟨Z, 3, none⟩ (.int .i64 (CT + newC f g)) = wy at *
                          have z2' : wy.cell? ⟨Z, 2, none⟩ = some (.int .i64 SZ) := cellB HM4.out.z 2
                          have zf := fun j => frozB HM4.out.z j
                          have HM5 := Aside0.mk (HM4.out.setZ 2 (.int .i64 (SZ + newB f g)) (SZ + newB f g) (CT + newC f g) rfl)
                          have HFIN := Aside0.mk (mid_fin (ep := ep) (s := done.foldl (stPut ep) s) HX5.out HMID.out HB5S.out HST.out HCU.out HSZ.out HCT.out (by rw [HCU.out]; exact HQ.out) HM5.out)
                          have HN := Aside0.mk (HREL5.out.next HFIN.out.1 HFIN.out.2 (by rw [HRE.out]; exact HAT5.out.1) (by rw [HRE.out]; exact HAT5.out.2))
                          clear HX5 HMID HM4 HM5 HFIN HGO HREL5 HAT5 HDAT5 HHH5
                          go_wp2_with fail
                          go_roundw
                          case rel =>
                            exact ⟨done ++ [g], rest, A2, c2, by rw [HRE.out], by rw [againOf_snoc, HRV.out], ⟨by rw [List.append_assoc]; exact hgs.out⟩, HN, by rw [HRE.out]; have := HLE.out; omega⟩
                          case measure =>
                            simp [lenOf]
                            have := HLE.out
                            omega

end Go.Proofs.YtblmbbllfiigmaaDoor
