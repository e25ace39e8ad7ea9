/-
  compactRawPackets, walked: what it puts together is what a plain function over lists puts together.
-/
import Derived.Test.YtklihfjchomkmaaRaw
namespace Go.Proofs.Ytklihfjchomkmaa
open Go.RowKit Go.Proofs.YtklihfjchomkmaaW.PrintWords Go.Proofs.YtklihfjchomkmaaW.PrintLast Go.Proofs.YtklihfjchomkmaaW.PrintMore

/-- what was put together, and what is being put together -/
structure CSt where
  acc : List (List Int)
  cur : List Int

def stepC (n : Int) (s : CSt) (p : List Int) : CSt := if 0 < s.cur.length ∧ n ≤ (s.cur.length : Int) + p.length then ⟨s.acc ++ [s.cur], [] ++ p⟩ else ⟨s.acc, s.cur ++ p⟩
def runC (n : Int) (l : List (List Int)) : CSt := l.foldl (stepC n) ⟨[], []⟩
def outC (n : Int) (l : List (List Int)) : List (List Int) := if l.length = 1 then l else (runC n l).acc ++ [(runC n l).cur]

def lens (l : List (List Int)) : Nat := (l.map List.length).sum

theorem le_lens (p : List Int) : ∀ l : List (List Int), p ∈ l → p.length ≤ lens l := by
  intro l
  induction l with
  | nil => intro h; cases h
  | cons q l ih =>
    intro h
    have e : lens (q :: l) = q.length + lens l := by simp [lens]
    rcases List.mem_cons.1 h with rfl | h
    · omega
    · have := ih h; omega

theorem lens_take (l : List (List Int)) : ∀ k, lens (l.take k) ≤ lens l := by
  induction l with
  | nil => intro k; simp [lens]
  | cons p l ih => intro k; cases k with
    | zero => simp [lens]
    | succ k => have := ih k; simp [lens] at this ⊢; exact this

theorem foldC_len (n : Int) : ∀ (l : List (List Int)) (s : CSt), (l.foldl (stepC n) s).cur.length ≤ s.cur.length + lens l ∧ (l.foldl (stepC n) s).acc.length ≤ s.acc.length + l.length := by
  intro l
  induction l with
  | nil => intro s; simp [lens]
  | cons p l ih =>
    intro s
    have h := ih (stepC n s p)
    have e : lens (p :: l) = p.length + lens l := by simp [lens]
    have h2 : (stepC n s p).cur.length ≤ s.cur.length + p.length := by unfold stepC; split <;> simp
    have h3 : (stepC n s p).acc.length ≤ s.acc.length + 1 := by unfold stepC; split <;> simp
    rw [List.foldl_cons, e, List.length_cons]
    omega

theorem runC_len (n : Int) (l : List (List Int)) (k : Nat) : (runC n (l.take k)).cur.length ≤ lens l ∧ (runC n (l.take k)).acc.length ≤ l.length := by
  have h := foldC_len n (l.take k) ⟨[], []⟩
  have h2 := lens_take l k
  have h3 : (l.take k).length ≤ l.length := by rw [List.length_take]; omega
  unfold runC
  simp only [List.length_nil, Nat.zero_add] at h
  omega

theorem runC_step (n : Int) (l : List (List Int)) (k : Nat) (hk : k < l.length) : runC n (l.take (k + 1)) = stepC n (runC n (l.take k)) (l.getD k []) := by
  rw [List.take_succ_eq_append_getElem hk, runC, List.foldl_append, List.getD_eq_getElem?_getD, List.getElem?_eq_getElem hk]; rfl

/-- What has been done after k rounds. -/
structure CompRel (w : World) (l : List (List Int)) (n : Int) (v5 v6 : Value) (k : Nat) (wr : World) : Prop where
  acc : (Kd.slice 5 (Kd.int .u8)).R 49 wr w.heap.size (fun k => True ∧ some k ≠ v6.ownBlock) v5 (runC n (l.take k)).acc
  cur : (Kd.int .u8).R 5 wr w.heap.size (fun _ => True) v6 (runC n (l.take k)).cur
  bel : Below w.heap.size w wr

theorem info5 : (Try.prog.info? 5).map (fun i => (i.zero, i.size, i.bytes)) = some (some (.int .u8 0), 1, 1) := by kernel_rfl

theorem R_empty5 (w : World) (base : Nat) (hb : base ≤ w.heap.size) : (Kd.int .u8).R 5 (w.alloc (.cells #[] 5)) base (fun _ => True) (.slice (some ⟨w.heap.size, 0, none⟩) 0 0) [] := by
  have h := World.ownsRow_made (base := base) (e := 5) (size := 1) w #[] 0 hb (Nat.zero_le _) rfl
  exact Kd.R_of_own (enc := Value.int .u8) (h1 := fun _ => rfl) h (fun _ _ => trivial)
theorem R_empty49 (w : World) (base : Nat) (ok : Nat → Prop) (hok : ∀ k, w.heap.size ≤ k → ok k) (hb : base ≤ w.heap.size) : (Kd.slice 5 (Kd.int .u8)).R 49 (w.alloc (.cells #[] 49)) base ok (.slice (some ⟨w.heap.size, 0, none⟩) 0 0) [] := by
  have h := World.ownsRow_made (base := base) (e := 49) (size := 1) w #[] 0 hb (Nat.zero_le _) rfl
  exact ⟨fun k hk => by simp [Value.ownBlock] at hk; exact hok k (by omega), [], h, ⟨by simp, fun j p hp => by simp at hp⟩⟩

theorem hm38 (w : World) : (Instr.makeSlice 38 (.int .i64 0) (.int .i64 0)).run Try.prog w = .ok (.slice (some ⟨w.heap.size, 0, none⟩) 0 0) (w.alloc (.cells #[] 49)) := by kernel_rfl
theorem hm49 (w : World) : (Instr.makeSlice 49 (.int .i64 0) (.int .i64 0)).run Try.prog w = .ok (.slice (some ⟨w.heap.size, 0, none⟩) 0 0) (w.alloc (.cells #[] 5)) := by kernel_rfl

def CompPost (w : World) (r : List (List Int)) (e : Ending) (w' : World) : Prop :=
  ∃ A c, e = .returned (.slice A r.length c) ∧ r.length ≤ c ∧ Kd.C (Kd.slice 5 (Kd.int .u8)) w' A r.length r ∧ Below w.heap.size w w'

/-- one list's elements: the cell that is read, and what it reads as -/
theorem packet_at {w : World} {A : Option Addr} {l : List (List Int)} (h : Kd.C (Kd.slice 5 (Kd.int .u8)) w A l.length l) (k : Nat) (hk : k < l.length) :
    ∃ ad A' c', A = some ad ∧ w.cell? (ad.add k) = some (.slice A' (l.getD k []).length c') ∧ (l.getD k []).length ≤ c' ∧ Kd.C (Kd.int .u8) w A' (l.getD k []).length (l.getD k []) := by
  obtain ⟨ad, c, e, _, ⟨A', c', e2, h2, h3⟩, hc⟩ := Kd.C_get h [] k (by omega) (by omega)
  rw [Int.toNat_natCast] at e2 h2 h3 hc
  refine ⟨ad, A', c', e, ?_, h2, h3⟩
  have := hc 0 (.slice A' (l.getD k []).length c') (by rw [e2]; rfl)
  simpa [Kd.slice] using this


set_option maxRecDepth 100000 in
set_option maxHeartbeats 2000000 in
theorem compact_any (C : Nat) (n : Int) (A : Option Addr) (c : Nat) (l : List (List Int)) (w : World) (hC : w.cell? ⟨C, 163, none⟩ = some (.int .i64 n)) (hn : 0 ≤ n) (hn2 : n ≤ 5000) (hl0 : 0 < l.length) (hl : l.length ≤ 2000) (hls : lens l ≤ 2000)
    (hc : l.length ≤ c) (hr : Kd.C (Kd.slice 5 (Kd.int .u8)) w A l.length l) :
    Calls Try.prog 20 #[.pointer (some ⟨C, 0, none⟩), .slice A l.length c] w fun e w' => CompPost w (outC n l) e w' := by
  have HR := Aside0.mk hr
  have HLS := Aside0.mk hls
  have HCC := Aside0.mk hC
  have HC2 := Aside0.mk hc
  clear hr hls hC hc
  by_cases h1 : l.length = 1
  · have HP : Aside0 (CompPost w (outC n l) (.returned (.slice A l.length c)) w) := ⟨by
      have e : outC n l = l := by unfold outC; rw [if_pos h1]
      rw [e]; exact ⟨A, c, rfl, HC2.out, HR.out, Below.refl _ _⟩⟩
    have g1 : ((l.length : Int) == 1) = true := by rw [beq_iff_eq]; omega
    clear h1
    go_enter Try.func20, Try.ntmps20
    go_wp2
    go_ret
    exact HP.out
  have g1 : ((l.length : Int) == 1) = false := by rw [beq_eq_false_iff_ne]; omega
  have HO1 : Aside0 (outC n l = (runC n l).acc ++ [(runC n l).cur]) := ⟨by unfold outC; rw [if_neg h1]⟩
  clear h1
  have k38 := hm38
  have k49 := hm49
  have H0 : Aside0 (CompRel w l n (.slice (some ⟨w.heap.size, 0, none⟩) 0 0) (.slice (some ⟨w.heap.size + 1, 0, none⟩) 0 0) 0 ((w.alloc (.cells #[] 49)).alloc (.cells #[] 5))) := ⟨by
    have b1 : Below w.heap.size w (w.alloc (.cells #[] 49)) := below_alloc (Below.refl _ _) _
    refine ⟨?_, ?_, below_alloc b1 _⟩
    · have h := Kd.R_elder' (v := .slice (some ⟨w.heap.size + 1, 0, none⟩) 0 0) (R_empty49 w w.heap.size (fun _ => True) (fun _ _ => trivial) (Nat.le_refl _)) (fun k hk => by simp [Value.ownBlock] at hk; simp; omega) (below_alloc (Below.refl _ (w.alloc (.cells #[] 49))) (.cells #[] 5))
      exact h
    · have h := R_empty5 (w.alloc (.cells #[] 49)) w.heap.size b1.size
      have e : (w.alloc (.cells #[] 49)).heap.size = w.heap.size + 1 := by simp
      rw [e] at h
      exact h⟩
  go_enter Try.func20, Try.ntmps20
  go_wp2
  go_loopw [5, 6, 17] (fun v5 v6 i wr => ∃ k : Nat, k ≤ l.length ∧ i = .int .i64 k ∧ Aside0 (CompRel w l n v5 v6 k wr)) (fun _ _ i _ => l.length - (intOf i).toNat)
  case atStart => exact ⟨0, Nat.zero_le _, rfl, H0⟩
  case round =>
    clear H0 k38 k49
    obtain ⟨k, hk, rfl, hrel⟩ := hrel
    have HLN := Aside0.mk (runC_len n l k)
    obtain ⟨A5, c5, e5⟩ := Kd.R_slice hrel.out.acc
    subst e5
    obtain ⟨A6, c6, e6⟩ := Kd.R_slice hrel.out.cur
    subst e6
    have HB := Aside0.mk hrel.out.bel
    have HA : Aside0 ((Kd.slice 5 (Kd.int .u8)).R 49 wr w.heap.size (fun _ => True) (.slice A5 (runC n (l.take k)).acc.length c5) (runC n (l.take k)).acc) := ⟨Kd.R_mono hrel.out.acc (fun _ _ => trivial)⟩
    have HP : Aside0 ((Kd.slice 5 (Kd.int .u8)).M wr w.heap.size (fun q => some q = (Value.slice A6 (runC n (l.take k)).cur.length c6).ownBlock) (runC n (l.take k)).cur [.slice A6 (runC n (l.take k)).cur.length c6]) :=
      ⟨⟨_, rfl, Kd.R_of_own (enc := Value.int .u8) (h1 := fun _ => rfl) (Kd.own_of_R hrel.out.cur) (fun q hq => hq.symm)⟩⟩
    have HQ : Aside0 (∀ q, some q = (Value.slice A6 (runC n (l.take k)).cur.length c6).ownBlock → True ∧ some q ≠ (Value.slice A5 (runC n (l.take k)).acc.length c5).ownBlock) := ⟨fun q hq => ⟨trivial, fun e => by
      obtain ⟨x1, t1⟩ := Kd.R_typed hrel.out.cur q hq.symm
      obtain ⟨x2, t2⟩ := Kd.R_typed hrel.out.acc q e.symm
      rw [t1] at t2
      injection t2 with t2
      injection t2 with _ t2
      exact absurd t2 (by decide)⟩⟩
    by_cases hlt : k < l.length
    · have p1 : (0 : Int) ≤ (k : Int) := by omega
      have p2 : (k : Int) < (l.length : Int) := by omega
      obtain ⟨ad, A', c', e, hx, hcc, hpk⟩ := packet_at HR.out k hlt
      cases e
      replace hx := (HB.out.cell (World.block_lt_of_cell? w _ hx)).trans hx
      have HPK := Aside0.mk hpk
      have HST := Aside0.mk (runC_step n l k hlt)
      have hlp : (l.getD k []).length ≤ 2000 := by
        have h2 : (l.getD k []).length ≤ lens l := by
          rw [List.getD_eq_getElem?_getD, List.getElem?_eq_getElem hlt]
          exact le_lens _ l (List.getElem_mem hlt)
        have := HLS.out
        omega
      have HLP := Aside0.mk hlp
      clear hpk hcc hlp
      obtain ⟨p, hp⟩ : ∃ p, p = l.getD k [] := ⟨_, rfl⟩
      rw [← hp] at HPK HST HLP hx
      have hlp := HLP.out
      have HPP := Aside0.mk hp
      clear hp
      have hcu : (runC n (l.take k)).cur.length ≤ 2000 := Nat.le_trans HLN.out.1 HLS.out
      have hC := (HB.out.cell (World.block_lt_of_cell? w _ HCC.out)).trans HCC.out
      by_cases hsp : 0 < (runC n (l.take k)).cur.length ∧ n ≤ ((runC n (l.take k)).cur.length : Int) + p.length
      · have HS : Aside0 (runC n (l.take (k + 1)) = ⟨(runC n (l.take k)).acc ++ [(runC n (l.take k)).cur], [] ++ p⟩) := ⟨by rw [HST.out]; unfold stepC; rw [if_pos hsp]⟩
        obtain ⟨s1, s2⟩ := hsp
        go_wp2_with (first | ((with_reducible refine gate_builtin (b := .append) (xs := #[.tmp 36, .tmp 38]) rfl ?_); at_builtin; refine Kd.R_append (Kd.slice 5 (Kd.int .u8)) (w0 := w) w.heap.size rfl (.tmp 36) (.tmp 38) 38 49 (.slice none 0 0) 24 rfl Try.underlying38 info49 rfl (by decide) (by omega) (.slice A5 (runC n (l.take k)).acc.length c5) (runC n (l.take k)).acc (runC n (l.take k)).cur [.slice A6 (runC n (l.take k)).cur.length c6] (fun _ => True) (fun q => some q = (Value.slice A6 (runC n (l.take k)).cur.length c6).ownBlock) rfl rfl ?aP ?aQ ?aF ?aO ?aB ?aS ?aL ?_; (case aP => exact HP.out); (case aQ => exact HQ.out); (case aB => exact HB.out); (case aF => exact (fun _ _ => trivial)); (case aO => exact HA.out); (case aS => exact HB.out.size); (case aL => have := HLN.out.2; omega); intro v13 w13 ho hb hg hat; have HO13 := Aside0.mk ho; have HB13 := Aside0.mk hb; have HG13 := Aside0.mk hg; clear ho hb hg hat) | ((with_reducible refine gate_builtin (b := .append) (xs := #[.tmp 41, .tmp 42]) rfl ?_); at_builtin; refine Kd.R_append_row (Value.int .u8) (0 : Int) (h1 := fun _ => rfl) (w0 := w) w.heap.size rfl (.tmp 41) (.tmp 42) 49 5 (.int .u8 0) 1 rfl Try.underlying49 info5 rfl (by decide) (.slice (some ⟨w13.heap.size, 0, none⟩) 0 0) [] p A' p.length c' (fun _ => True) rfl rfl (fun _ _ => trivial) ?bO ?bR ?bB ?bS ?bL ?_; (case bO => exact R_empty5 w13 w.heap.size HB13.out.size); (case bR => exact Kd.C_below HPK.out (by first | exact (below_alloc HB13.out _))); (case bB => exact (below_alloc HB13.out _)); (case bS => exact (below_alloc HB13.out _).size); (case bL => have := HLN.out.1; have := HLP.out; simp; omega); intro v14 w14 ho hb hg hat; have HO14 := Aside0.mk ho; have HB14 := Aside0.mk hb; have HG14 := Aside0.mk hg; have HAT14 := Aside0.mk hat; clear ho hb hg hat))
        go_roundw
        case rel =>
          refine ⟨k + 1, by omega, by go_num, ⟨?_, ?_, HB14.out⟩⟩
          · rw [HS.out]
            exact Kd.R_after (Kd.R_elder' (v := .slice (some ⟨w13.heap.size, 0, none⟩) 0 0) HO13.out (fun k hk => by simp [Value.ownBlock] at hk; omega) (below_alloc (Below.refl _ w13) (.cells #[] 5))) HG14.out HAT14.out
          · rw [HS.out]
            exact HO14.out
        case measure => simp [intOf]; omega
      · have HS : Aside0 (runC n (l.take (k + 1)) = ⟨(runC n (l.take k)).acc, (runC n (l.take k)).cur ++ p⟩) := ⟨by rw [HST.out]; unfold stepC; rw [if_neg hsp]⟩
        by_cases s1 : 0 < (runC n (l.take k)).cur.length
        · have s2 : ((runC n (l.take k)).cur.length : Int) + p.length < n := by omega
          clear hsp
          go_wp2_with ((with_reducible refine gate_builtin (b := .append) (xs := #[.tmp 41, .tmp 42]) rfl ?_); at_builtin; refine Kd.R_append_row (Value.int .u8) (0 : Int) (h1 := fun _ => rfl) (w0 := w) w.heap.size rfl (.tmp 41) (.tmp 42) 49 5 (.int .u8 0) 1 rfl Try.underlying49 info5 rfl (by decide) (.slice A6 (runC n (l.take k)).cur.length c6) (runC n (l.take k)).cur p A' p.length c' (fun _ => True) rfl rfl (fun _ _ => trivial) ?bO ?bR ?bB ?bS ?bL ?_; (case bO => exact hrel.out.cur); (case bR => exact Kd.C_below HPK.out HB.out); (case bB => exact HB.out); (case bS => exact HB.out.size); (case bL => have := HLN.out.1; have := HLP.out; simp; omega); intro v14 w14 ho hb hg hat; have HO14 := Aside0.mk ho; have HB14 := Aside0.mk hb; have HG14 := Aside0.mk hg; have HAT14 := Aside0.mk hat; clear ho hb hg hat)
          go_roundw
          case rel => exact ⟨k + 1, by omega, by go_num, ⟨by rw [HS.out]; exact Kd.R_after hrel.out.acc HG14.out HAT14.out, by rw [HS.out]; exact HO14.out, HB14.out⟩⟩
          case measure => simp [intOf]; omega
        · clear hsp
          go_wp2_with ((with_reducible refine gate_builtin (b := .append) (xs := #[.tmp 41, .tmp 42]) rfl ?_); at_builtin; refine Kd.R_append_row (Value.int .u8) (0 : Int) (h1 := fun _ => rfl) (w0 := w) w.heap.size rfl (.tmp 41) (.tmp 42) 49 5 (.int .u8 0) 1 rfl Try.underlying49 info5 rfl (by decide) (.slice A6 (runC n (l.take k)).cur.length c6) (runC n (l.take k)).cur p A' p.length c' (fun _ => True) rfl rfl (fun _ _ => trivial) ?bO ?bR ?bB ?bS ?bL ?_; (case bO => exact hrel.out.cur); (case bR => exact Kd.C_below HPK.out HB.out); (case bB => exact HB.out); (case bS => exact HB.out.size); (case bL => have := HLN.out.1; have := HLP.out; simp; omega); intro v14 w14 ho hb hg hat; have HO14 := Aside0.mk ho; have HB14 := Aside0.mk hb; have HG14 := Aside0.mk hg; have HAT14 := Aside0.mk hat; clear ho hb hg hat)
          go_roundw
          case rel => exact ⟨k + 1, by omega, by go_num, ⟨by rw [HS.out]; exact Kd.R_after hrel.out.acc HG14.out HAT14.out, by rw [HS.out]; exact HO14.out, HB14.out⟩⟩
          case measure => simp [intOf]; omega
    · have HKL : Aside0 (l.take k = l) := ⟨List.take_of_length_le (by omega)⟩
      go_wp2_with ((with_reducible refine gate_builtin (b := .append) (xs := #[.tmp 45, .tmp 47]) rfl ?_); at_builtin; refine Kd.R_append (Kd.slice 5 (Kd.int .u8)) (w0 := w) w.heap.size rfl (.tmp 45) (.tmp 47) 38 49 (.slice none 0 0) 24 rfl Try.underlying38 info49 rfl (by decide) (by omega) (.slice A5 (runC n (l.take k)).acc.length c5) (runC n (l.take k)).acc (runC n (l.take k)).cur [.slice A6 (runC n (l.take k)).cur.length c6] (fun _ => True) (fun q => some q = (Value.slice A6 (runC n (l.take k)).cur.length c6).ownBlock) rfl rfl ?aP ?aQ ?aF ?aO ?aB ?aS ?aL ?_; (case aP => exact HP.out); (case aQ => exact HQ.out); (case aB => exact HB.out); (case aF => exact (fun _ _ => trivial)); (case aO => exact HA.out); (case aS => exact HB.out.size); (case aL => have := HLN.out.2; omega); intro v13 w13 ho hb hg hat; have HO13 := Aside0.mk ho; have HB13 := Aside0.mk hb; have HG13 := Aside0.mk hg; clear ho hb hg hat)
      go_ret
      rw [HKL.out] at HO13
      obtain ⟨A7, c7, e7, h7, h8⟩ := Kd.R_reads HO13.out
      subst e7
      refine ⟨A7, c7, ?_, ?_, ?_, HB13.out⟩
      · rw [HO1.out]; rfl
      · rw [HO1.out]; exact h7
      · rw [HO1.out]; exact h8

end Go.Proofs.Ytklihfjchomkmaa
