/-
  spec.Fragments: what the reference tells of a script whose records hold one fragment each.
-/
import Derived.Test.YtblmbbllfiigmaaDoorSpr
namespace Go.Proofs.YtblmbbllfiigmaaDoor
open Go.RowKit Go.Proofs.YtblmbbllfiigmaaDoorW.PrintWords Go.Proofs.YtblmbbllfiigmaaDoorW.PrintLast Go.Proofs.YtblmbbllfiigmaaDoorW.PrintMore PAll

/-- The reference's buffer. -/
structure SS where
  l : List S68
  nx : Int
def ss0 : SS := ⟨[], 0⟩
def wholeS (s : SS) : Option S68 := match startS s.nx s.l with
  | some p => if p.f1 ≤ covIter s.nx s.l s.l.length then some p else none
  | none => none
def headS (p : S68) : ByteArray := (spec_Head.f p.f0 p.f1 p.f2 0 p.f1).getD ⟨#[]⟩
def sStep (s : SS) (x : S40) : SS := if x.f0 then ⟨pushS s.nx s.l (oneOf x.f1), s.nx⟩ else match wholeS s with
  | some _ => ⟨restS s.nx s.l, s.nx + 1⟩
  | none => s
def sTold (s : SS) (x : S40) : S43 := if x.f0 then ⟨true, againS s.nx (oneOf x.f1), false, false, ⟨#[]⟩, 0, 0⟩ else match wholeS s with
  | some p => ⟨false, false, false, true, headS p ++ strOfNums (bodyS s.nx s.l p.f1.toNat), p.f5, 0⟩
  | none => ⟨false, false, false, false, ⟨#[]⟩, 0, 0⟩
structure SOk (s : SS) (x : S40) : Prop where
  few : s.l.length ≤ 1000000
  small : SmallS s.l
  nx : 0 ≤ s.nx ∧ s.nx ≤ 1000000
  push : x.f0 = true → OneRec x.f1 (oneOf x.f1)
  pop : x.f0 = false → ∀ p, wholeS s = some p → ∃ n : Nat, p.f1 = (n : Int) ∧ n ≤ 100000 ∧ FitS s.nx s.l n ∧ spec_Head.f p.f0 p.f1 p.f2 0 p.f1 = some (headS p) ∧ (headS p).size ≤ 1000
def SRunOk : SS → List S40 → Prop
  | _, [] => True
  | s, x :: r => SOk s x ∧ SRunOk (sStep s x) r
def sRun (s : SS) (xs : List S40) : SS := xs.foldl sStep s
def sTolds : SS → List S40 → List S43
  | _, [] => []
  | s, x :: r => sTold s x :: sTolds (sStep s x) r
theorem sTolds_snoc : ∀ (xs : List S40) (s : SS) (x : S40), sTolds s (xs ++ [x]) = sTolds s xs ++ [sTold (sRun s xs) x]
  | [], s, x => rfl
  | y :: xs, s, x => by
    rw [List.cons_append, sTolds, sTolds_snoc xs (sStep s y) x]
    rfl
theorem sTolds_len : ∀ (xs : List S40) (s : SS), (sTolds s xs).length = xs.length
  | [], _ => rfl
  | y :: xs, s => by rw [sTolds, List.length_cons, List.length_cons, sTolds_len xs]

/-- The row of what was told outlives a push or a pop. -/
theorem told_keep {w w' : World} {base b : Nat} {v : Value} {l : List S43} (h : Kd.R k43 43 w b (fun _ => True) v l) (hk : KeepS base w w') : Kd.R k43 43 w' b (fun _ => True) v l := by
  refine Kd.R_mono (Kd.R_move (Kd.R_bound h) (fun k hkk => ?_)) (fun _ _ => trivial)
  obtain ⟨_, _, _, q, hq, cells, hc⟩ := hkk
  have hq3 : q = 43 := by simpa [k43, Kd.iso, Kd.pair, Kd.int, Kd.string, Kd.bool, Kd.scalar] using hq
  subst hq3
  exact hk.kind k cells 43 (0, 0) hc (by decide) (by decide)

/-- Where the loop of the reference's Fragments stands. -/
structure FrsRel (w : World) (G : Nat) (done todo : List S40) (v4 : Value) (wr : World) : Prop where
  row : Kd.R k43 43 wr w.heap.size (fun _ => True) v4 (sTolds ss0 done)
  buf : ∃ v, SpB wr w.heap.size G v (sRun ss0 done).l (sRun ss0 done).nx
  bel : Below w.heap.size w wr
  g : w.heap.size ≤ G
  ok : SRunOk (sRun ss0 done) todo
theorem FrsRel.told {w : World} {G : Nat} {done rest : List S40} {x : S40} {v4 v7 : Value} {w5 w6 w7 : World} (h5 : Kd.R k43 43 w5 w.heap.size (fun _ => True) v4 (sTolds ss0 done)) (hbuf : ∃ v, SpB w5 w.heap.size G v (sStep (sRun ss0 done) x).l (sStep (sRun ss0 done) x).nx) (hbel : Below w.heap.size w w5) (hg : w.heap.size ≤ G) (hok : SRunOk (sStep (sRun ss0 done) x) rest)
    (hb6 : Below w5.heap.size w5 w6) (ho : Kd.R k43 43 w7 w.heap.size (fun _ => True) v7 (sTolds ss0 done ++ [sTold (sRun ss0 done) x])) (hb7 : Below w.heap.size w5 w7) (hgr : w6.grownBy w7 v4.ownBlock) : FrsRel w G (done ++ [x]) rest v7 w7 := by
  have hst : sRun ss0 (done ++ [x]) = sStep (sRun ss0 done) x := by simp [sRun]
  refine ⟨by rw [sTolds_snoc]; exact ho, ?_, hbel.trans hb7, hg, by rw [hst]; exact hok⟩
  obtain ⟨v, hs⟩ := hbuf
  rw [hst]
  have hs6 := hs.below hb6
  have h6 := Kd.R_below h5 hb6
  have e68 : ∀ q, q ∈ 68 :: k68.E → q ≠ 43 := fun q hq => by
    have : q = 68 := by simpa [k68, Kd.iso, Kd.pair, Kd.int, Kd.string, Kd.scalar] using hq
    omega
  exact ⟨v, (hgr.block G (ltB hs6.blk) (Kd.R_ne h6 hs6.blk (by decide))).trans hs6.blk, Kd.R_over hs6.row h6 e68 hgr⟩

set_option linter.unusedSimpArgs false in
set_option linter.unusedVariables false in
set_option maxRecDepth 100000 in
set_option maxHeartbeats 4000000 in
theorem frs_any (A : Option Addr) (c : Nat) (xs : List S40) (w : World) (hr : Kd.C k40 w A xs.length xs) (hn : xs.length ≤ 1000000) (ok : SRunOk ss0 xs) :
    Calls Tryd.prog 18 #[.slice A xs.length c] w fun e w' => ∃ v, e = .returned v ∧ Kd.R k43 43 w' w.heap.size (fun _ => True) v (sTolds ss0 xs) ∧ Below w.heap.size w w' := by
  have HR := Aside0.mk hr
  have OK := Aside0.mk ok
  clear hr ok
  go_enter Tryd.func18, Tryd.ntmps18
  go_upto_region 3 with fail
  have H0 : Aside0 (FrsRel w w.heap.size [] xs (.slice none 0 0) (w.alloc (.cells #[.slice none 0 0, .int .i64 0] 72))) := ⟨⟨Kd.R_nil _ _ _ _ _, ⟨.slice none 0 0, blk_new w _, Kd.R_nil _ _ _ _ _⟩, below_alloc (Below.refl _ w) _, Nat.le_refl _, OK.out⟩⟩
  generalize w.alloc (.cells #[.slice none 0 0, .int .i64 0] 72) = W1 at *
  go_wp2_with fail
  go_loopw [4, 5] (fun v4 v5 wr => ∃ (done todo : List S40) (A4 : Option Addr) (c4 : Nat), v5 = .int .i64 done.length ∧ v4 = .slice A4 done.length c4 ∧ Aside0 (done ++ todo = xs) ∧ Aside0 (FrsRel w w.heap.size done todo v4 wr) ∧ done.length ≤ xs.length) (fun _ v5 _ => xs.length - (intOf v5).toNat)
  case atStart => exact ⟨[], xs, none, 0, rfl, rfl, ⟨rfl⟩, H0, by simp⟩
  case round =>
    clear H0
    obtain ⟨done, todo, A4, c4, rfl, rfl, hcm, hrel, hdl⟩ := hrel
    cases todo with
    | nil =>
      have hdc : done = xs := by rw [← hcm.out, List.append_nil]
      subst hdc
      have q : ¬ (done.length : Int) < (done.length : Int) := by omega
      go_wp2_with fail
      go_ret
      exact ⟨_, rfl, hrel.out.row, hrel.out.bel⟩
    | cons x rest =>
      have hlt : done.length < xs.length := by rw [← hcm.out]; simp
      obtain ⟨ad, hA, a0, a1⟩ := at_T40 HR.out (done.length : Int) (by omega) (by omega)
      have hrd : rd_T40 xs (done.length : Int) = x := by
        rw [rd_T40, Int.toNat_natCast, ← hcm.out, List.getD_eq_getElem?_getD]
        simp
      rw [hrd] at a0 a1
      subst hA
      have a0 := pw_cell_below hrel.out.bel a0
      have a1 := pw_cell_below hrel.out.bel a1
      have p1 : (0 : Int) ≤ (done.length : Int) := by omega
      have p2 : (done.length : Int) < (xs.length : Int) := by omega
      rw [Int.toNat_natCast] at a0 a1
      have HL : Aside0 ((sTolds ss0 done).length = done.length) := ⟨sTolds_len _ _⟩
      clear hrd
      cases hp : x.f0 with
      | true =>
        rw [hp] at a0
        have HP := Aside0.mk hp
        clear hp
        have HSO := Aside0.mk hrel.out.ok.1
        have h1 := HSO.out.push HP.out
        obtain ⟨i, hi, hx1⟩ := h1.is
        obtain ⟨vb, hvb⟩ := hrel.out.buf
        have hcall := pushed_any w.heap.size w.heap.size vb (sRun ss0 done).l (sRun ss0 done).nx i (oneOf x.f1) wr hvb HSO.out.few (Nat.le_refl _) hrel.out.bel.size h1.fits h1.byt h1.short
        rw [← hx1] at hcall
        have HCALL := Aside0.mk hcall
        have HTT : Aside0 (sTold (sRun ss0 done) x = ⟨true, againS (sRun ss0 done).nx (oneOf x.f1), false, false, ⟨#[]⟩, 0, 0⟩) := ⟨by unfold sTold; rw [if_pos HP.out]⟩
        have HSS : Aside0 (sStep (sRun ss0 done) x = ⟨pushS (sRun ss0 done).nx (sRun ss0 done).l (oneOf x.f1), (sRun ss0 done).nx⟩) := ⟨by unfold sStep; rw [if_pos HP.out]⟩
        clear h1 hi hx1 hvb hcall
        go_wp2_with fail
        refine HCALL.out.mono ?_
        rintro e W2 ⟨rfl, hbuf, hkeep⟩
        have HT2 := Aside0.mk (told_keep hrel.out.row hkeep)
        have HB2 : Aside0 (Below w.heap.size w W2) := ⟨hrel.out.bel.trans (hkeep).below⟩
        have HBF : Aside0 (∃ v, SpB W2 w.heap.size w.heap.size v (sStep (sRun ss0 done) x).l (sStep (sRun ss0 done) x).nx) := ⟨by rw [HSS.out]; exact hbuf⟩
        have HOK := Aside0.mk hrel.out.ok.2
        clear hbuf hkeep HCALL hrel a0 a1
        generalize againS (sRun ss0 done).nx (oneOf x.f1) = AG at *
        go_wp2_with ((with_reducible refine gate_builtin (b := .append) (xs := #[.tmp 19, .tmp 27]) rfl ?_); at_builtin; refine Kd.R_append k43 (w0 := W2) w.heap.size rfl (.tmp 19) (.tmp 27) 32 43 (.agg #[.bool false, .bool false, .bool false, .bool false, .string ⟨#[]⟩, .int .u16 0, .int .i64 0]) 40 rfl Tryd.underlying32 info43 rfl (by decide) (by omega) (.slice A4 done.length c4) (sTolds ss0 done) (sTold (sRun ss0 done) x) [.bool true, .bool AG, .bool false, .bool false, .string ⟨#[]⟩, .int .u16 0, .int .i64 0] (fun _ => True) (fun _ => False) rfl rfl ?aP (fun _ hk => hk.elim) ?aF ?aO ?aB ?aS ?aL ?_; (case aP => rw [HTT.out]; exact k43_mkM _ _ _ ⟨_, _, _, _, _, _, _⟩); (case aB => exact (Below.refl _ _).mono (Nat.le_refl _)); (case aF => exact (fun _ _ => trivial)); (case aO => exact HT2.out); (case aS => exact HB2.out.size); (case aL => rw [HL.out]; omega); intro v7 w7 ho hb hg hat; have HO7 := Aside0.mk ho; have HB7 := Aside0.mk hb; have HG7 := Aside0.mk hg; clear ho hb hg hat)
        obtain ⟨A7, c7, hv7⟩ := Kd.R_slice HO7.out
        rw [show (sTolds ss0 done ++ [sTold (sRun ss0 done) x]).length = done.length + 1 from by rw [List.length_append, HL.out]; rfl] at hv7
        subst hv7
        have HNEW : Aside0 (FrsRel w w.heap.size (done ++ [x]) rest (.slice A7 (done.length + 1) c7) w7) := ⟨FrsRel.told HT2.out HBF.out HB2.out (Nat.le_refl _) HOK.out (Below.refl _ W2) HO7.out HB7.out HG7.out⟩
        clear HO7 HB7 HG7 HT2 HB2 HBF HOK
        go_roundw
        case rel => exact ⟨done ++ [x], rest, A7, c7, by rw [List.length_append]; go_num, by simp, ⟨by rw [List.append_assoc]; exact hcm.out⟩, by simpa using HNEW, by simp; omega⟩
        case measure => simp [intOf]; omega
      | false =>
        rw [hp] at a0
        have HP := Aside0.mk hp
        clear hp
        have HSO := Aside0.mk hrel.out.ok.1
        obtain ⟨vb, hvb⟩ := hrel.out.buf
        cases hwh : wholeS (sRun ss0 done) with
        | none =>
          have hno : ∀ p, startS (sRun ss0 done).nx (sRun ss0 done).l = some p → covIter (sRun ss0 done).nx (sRun ss0 done).l (sRun ss0 done).l.length < p.f1 := fun p hp => by
            unfold wholeS at hwh
            rw [hp] at hwh
            simp only at hwh
            split at hwh
            · cases hwh
            · omega
          have HCALL := Aside0.mk (spop_none w.heap.size w.heap.size vb (sRun ss0 done).l (sRun ss0 done).nx wr hvb HSO.out.few HSO.out.small hno)
          have HTT : Aside0 (sTold (sRun ss0 done) x = ⟨false, false, false, false, ⟨#[]⟩, 0, 0⟩) := ⟨by unfold sTold; rw [if_neg (by rw [HP.out]; decide), hwh]⟩
          have HSS : Aside0 (sStep (sRun ss0 done) x = sRun ss0 done) := ⟨by unfold sStep; rw [if_neg (by rw [HP.out]; decide), hwh]⟩
          have HVB := Aside0.mk hvb
          clear hno hwh hvb
          go_wp2_with fail
          refine HCALL.out.mono ?_
          rintro e W2 ⟨rfl, hbel⟩
          have HT2 := Aside0.mk (told_keep hrel.out.row (KeepS.of_below hrel.out.bel.size hbel))
          have HB2 : Aside0 (Below w.heap.size w W2) := ⟨hrel.out.bel.trans ((KeepS.of_below hrel.out.bel.size hbel)).below⟩
          have HBF : Aside0 (∃ v, SpB W2 w.heap.size w.heap.size v (sStep (sRun ss0 done) x).l (sStep (sRun ss0 done) x).nx) := ⟨by rw [HSS.out]; exact ⟨_, HVB.out.below hbel⟩⟩
          have HOK := Aside0.mk hrel.out.ok.2
          clear hbel HCALL hrel a0 a1
          go_wp2_with ((with_reducible refine gate_builtin (b := .append) (xs := #[.tmp 29, .tmp 32]) rfl ?_); at_builtin; refine Kd.R_append k43 (w0 := W2) w.heap.size rfl (.tmp 29) (.tmp 32) 32 43 (.agg #[.bool false, .bool false, .bool false, .bool false, .string ⟨#[]⟩, .int .u16 0, .int .i64 0]) 40 rfl Tryd.underlying32 info43 rfl (by decide) (by omega) (.slice A4 done.length c4) (sTolds ss0 done) (sTold (sRun ss0 done) x) [.bool false, .bool false, .bool false, .bool false, .string ⟨#[]⟩, .int .u16 0, .int .i64 0] (fun _ => True) (fun _ => False) rfl rfl ?aP (fun _ hk => hk.elim) ?aF ?aO ?aB ?aS ?aL ?_; (case aP => rw [HTT.out]; exact k43_mkM _ _ _ ⟨_, _, _, _, _, _, _⟩); (case aB => exact (Below.refl _ _).mono (Nat.le_refl _)); (case aF => exact (fun _ _ => trivial)); (case aO => exact HT2.out); (case aS => exact HB2.out.size); (case aL => rw [HL.out]; omega); intro v7 w7 ho hb hg hat; have HO7 := Aside0.mk ho; have HB7 := Aside0.mk hb; have HG7 := Aside0.mk hg; clear ho hb hg hat)
          obtain ⟨A7, c7, hv7⟩ := Kd.R_slice HO7.out
          rw [show (sTolds ss0 done ++ [sTold (sRun ss0 done) x]).length = done.length + 1 from by rw [List.length_append, HL.out]; rfl] at hv7
          subst hv7
          have HNEW : Aside0 (FrsRel w w.heap.size (done ++ [x]) rest (.slice A7 (done.length + 1) c7) w7) := ⟨FrsRel.told HT2.out HBF.out HB2.out (Nat.le_refl _) HOK.out (Below.refl _ W2) HO7.out HB7.out HG7.out⟩
          clear HO7 HB7 HG7 HT2 HB2 HBF HOK
          go_roundw
          case rel => exact ⟨done ++ [x], rest, A7, c7, by rw [List.length_append]; go_num, by simp, ⟨by rw [List.append_assoc]; exact hcm.out⟩, by simpa using HNEW, by simp; omega⟩
          case measure => simp [intOf]; omega
        | some p =>
          obtain ⟨n, hpn, hnn, hfit, hhd, hhl⟩ := HSO.out.pop HP.out p hwh
          have hst : startS (sRun ss0 done).nx (sRun ss0 done).l = some p ∧ p.f1 ≤ covIter (sRun ss0 done).nx (sRun ss0 done).l (sRun ss0 done).l.length := by
            unfold wholeS at hwh
            split at hwh
            · rename_i q hq
              split at hwh
              · rename_i hle
                injection hwh with e
                subst e
                exact ⟨hq, hle⟩
              · cases hwh
            · cases hwh
          have HCALL := Aside0.mk (spop_some w.heap.size w.heap.size vb (sRun ss0 done).l (sRun ss0 done).nx p n (headS p) wr hvb HSO.out.few (Nat.le_refl _) hrel.out.bel.size HSO.out.nx HSO.out.small hst.1 hpn hnn (by rw [← hpn]; omega) hfit hhd hhl)
          have HTT : Aside0 (sTold (sRun ss0 done) x = ⟨false, false, false, true, headS p ++ strOfNums (bodyS (sRun ss0 done).nx (sRun ss0 done).l n), p.f5, 0⟩) := ⟨by unfold sTold; rw [if_neg (by rw [HP.out]; decide), hwh]; simp only [hpn, Int.toNat_natCast]⟩
          have HSS : Aside0 (sStep (sRun ss0 done) x = ⟨restS (sRun ss0 done).nx (sRun ss0 done).l, (sRun ss0 done).nx + 1⟩) := ⟨by unfold sStep; rw [if_neg (by rw [HP.out]; decide), hwh]⟩
          clear hwh hvb hpn hnn hfit hhd hhl hst
          go_wp2_with fail
          refine HCALL.out.mono ?_
          rintro e W2 ⟨rfl, hbuf, hkeep⟩
          have HT2 := Aside0.mk (told_keep hrel.out.row hkeep)
          have HB2 : Aside0 (Below w.heap.size w W2) := ⟨hrel.out.bel.trans (hkeep).below⟩
          have HBF : Aside0 (∃ v, SpB W2 w.heap.size w.heap.size v (sStep (sRun ss0 done) x).l (sStep (sRun ss0 done) x).nx) := ⟨by rw [HSS.out]; exact hbuf⟩
          have HOK := Aside0.mk hrel.out.ok.2
          clear hbuf hkeep HCALL hrel a0 a1
          generalize headS p ++ strOfNums (bodyS (sRun ss0 done).nx (sRun ss0 done).l n) = CT at *
          go_wp2_with ((with_reducible refine gate_builtin (b := .append) (xs := #[.tmp 29, .tmp 32]) rfl ?_); at_builtin; refine Kd.R_append k43 (w0 := W2) w.heap.size rfl (.tmp 29) (.tmp 32) 32 43 (.agg #[.bool false, .bool false, .bool false, .bool false, .string ⟨#[]⟩, .int .u16 0, .int .i64 0]) 40 rfl Tryd.underlying32 info43 rfl (by decide) (by omega) (.slice A4 done.length c4) (sTolds ss0 done) (sTold (sRun ss0 done) x) [.bool false, .bool false, .bool false, .bool true, .string CT, .int .u16 p.f5, .int .i64 0] (fun _ => True) (fun _ => False) rfl rfl ?aP (fun _ hk => hk.elim) ?aF ?aO ?aB ?aS ?aL ?_; (case aP => rw [HTT.out]; exact k43_mkM _ _ _ ⟨_, _, _, _, _, _, _⟩); (case aB => exact (Below.refl _ _).mono (Nat.le_refl _)); (case aF => exact (fun _ _ => trivial)); (case aO => exact HT2.out); (case aS => exact HB2.out.size); (case aL => rw [HL.out]; omega); intro v7 w7 ho hb hg hat; have HO7 := Aside0.mk ho; have HB7 := Aside0.mk hb; have HG7 := Aside0.mk hg; clear ho hb hg hat)
          obtain ⟨A7, c7, hv7⟩ := Kd.R_slice HO7.out
          rw [show (sTolds ss0 done ++ [sTold (sRun ss0 done) x]).length = done.length + 1 from by rw [List.length_append, HL.out]; rfl] at hv7
          subst hv7
          have HNEW : Aside0 (FrsRel w w.heap.size (done ++ [x]) rest (.slice A7 (done.length + 1) c7) w7) := ⟨FrsRel.told HT2.out HBF.out HB2.out (Nat.le_refl _) HOK.out (Below.refl _ W2) HO7.out HB7.out HG7.out⟩
          clear HO7 HB7 HG7 HT2 HB2 HBF HOK
          go_roundw
          case rel => exact ⟨done ++ [x], rest, A7, c7, by rw [List.length_append]; go_num, by simp, ⟨by rw [List.append_assoc]; exact hcm.out⟩, by simpa using HNEW, by simp; omega⟩
          case measure => simp [intOf]; omega

end Go.Proofs.YtblmbbllfiigmaaDoor

namespace Go.Proofs.YtblmbbllfiigmaaDoor.PAll
open Go.RowKit Go.Proofs.YtblmbbllfiigmaaDoorW.PrintWords Go.Proofs.YtblmbbllfiigmaaDoorW.PrintLast Go.Proofs.YtblmbbllfiigmaaDoorW.PrintMore
open Classical in
noncomputable def spec_Fragments.f (_ : Nat) (l : List S40) : Option (List S43) := if l.length ≤ 1000000 ∧ SRunOk ss0 l then some (sTolds ss0 l) else none
set_option linter.unusedVariables false in
theorem spec_Fragments.calls (k : Nat) (A0 : Option Addr) (c0 : Nat) (l0 : List S40) (r : List S43) (w : World) (hr0 : Kd.C k40 w A0 l0.length l0) (hc0 : l0.length ≤ c0) (h : spec_Fragments.f k l0 = some r) :
    Calls Tryd.prog 18 #[.slice A0 l0.length c0] w fun e w' => ∃ v0_ : Value, e = .returned (v0_) ∧ Kd.R k43 43 w' w.heap.size (fun _ => True) v0_ r ∧ Below w.heap.size w w' := by
  unfold spec_Fragments.f at h
  split at h
  case isFalse => cases h
  rename_i hc
  obtain rfl := Option.some.inj h
  exact frs_any A0 c0 l0 w hr0 hc.1 hc.2
end Go.Proofs.YtblmbbllfiigmaaDoor.PAll
