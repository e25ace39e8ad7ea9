/-
  The thin package's Compact, walked: so many texts come as the plain function puts together.
-/
import Derived.Test.YtklihfjchomkmaaComp
namespace Go.Proofs.Ytklihfjchomkmaa
open Go.RowKit Go.Proofs.YtklihfjchomkmaaW.PrintWords Go.Proofs.YtklihfjchomkmaaW.PrintLast Go.Proofs.YtklihfjchomkmaaW.PrintMore PFnCompactWider

/-- a connection's cells, all zero -/
noncomputable def zcells : Array Value := match (zeroValue 76).run Try.prog default with | .ok (.agg cs) _ => cs | _ => #[]
theorem zero76 (w : World) : (zeroValue 76).run Try.prog w = .ok (.agg zcells) w := by kernel_rfl
theorem zsize : zcells.size = 164 := by kernel_rfl

theorem cell_big (w : World) (cs : Array Value) (t : TypeId) (j : Nat) : (w.alloc (.cells cs t)).cell? ⟨w.heap.size, j, none⟩ = cs[j]? := by
  have h := heap_alloc_new w (.cells cs t)
  simp only [World.cell?, h, Option.isSome_none, Bool.false_eq_true, if_false]

set_option maxRecDepth 100000 in
set_option maxHeartbeats 1000000 in
theorem zz_any (n : Int) (A : Option Addr) (c : Nat) (l : List (List Int)) (w : World) (hn : 0 ≤ n) (hn2 : n ≤ 5000) (hl0 : 0 < l.length) (hl : l.length ≤ 2000) (hls : lens l ≤ 2000)
    (hc : l.length ≤ c) (hr : Kd.C (Kd.slice 5 (Kd.int .u8)) w A l.length l) :
    Calls Try.prog 16 #[.slice A l.length c, .int .i64 n] w fun e w' => CompPost w (outC n l) e w' := by
  have hz := zero76
  have hs := zsize
  have HB := Aside0.mk (below_alloc (Below.refl w.heap.size w) (.cells (zcells.setIfInBounds 163 (.int .i64 n)) 76))
  have HC : Aside0 ((w.alloc (.cells (zcells.setIfInBounds 163 (.int .i64 n)) 76)).cell? ⟨w.heap.size, 163, none⟩ = some (.int .i64 n)) := ⟨by
    rw [cell_big, Array.getElem?_setIfInBounds_self_of_lt (by rw [zsize]; decide)]⟩
  have HCALL := Aside0.mk (compact_any w.heap.size n A c l _ HC.out hn hn2 hl0 hl hls hc (Kd.C_below hr HB.out))
  clear hr hls hc hl hl0
  go_enter Try.func16, Try.ntmps16
  go_wp2_with fail
  refine HCALL.out.mono ?_
  rintro e w1 ⟨A1, c1, rfl, h1, h2, h3⟩
  have HP : Aside0 (CompPost w (outC n l) (.returned (.slice A1 (outC n l).length c1)) w1) := ⟨⟨A1, c1, rfl, h1, h2, below_then HB.out HB.out.size h3⟩⟩
  clear h1 h2 h3 hz hs
  go_wp2
  go_ret
  exact HP.out

theorem wrap_le (i : Nat) (h : i < 1000000) : wrap64 ((i : Int) + 1) = ((i + 1 : Nat) : Int) := by unfold wrap64; omega

theorem plain_l0 (l : List (List Int)) (hl : l.length ≤ 10000) : ∀ (d k i : Nat) (out : List ByteArray), l.length - i = d → i ≤ l.length → out.length = i → d < k → ∃ r, impl_plain.l0 k out l (l.length : Int) i = some r ∧ r.length = l.length := by
  intro d
  induction d with
  | zero =>
    intro k i out hd hi ho hk
    obtain ⟨k, rfl⟩ : ∃ m, k = m + 1 := ⟨k - 1, by omega⟩
    exact ⟨out, by simp only [impl_plain.l0]; rw [if_neg (by omega)], by omega⟩
  | succ d ih =>
    intro k i out hd hi ho hk
    obtain ⟨k, rfl⟩ : ∃ m, k = m + 1 := ⟨k - 1, by omega⟩
    obtain ⟨r, hr, hrl⟩ := ih k (i + 1) (out ++ [strOfNums (rd_L2 l i)]) (by omega) (by omega) (by simp; omega) (by omega)
    refine ⟨r, ?_, hrl⟩
    simp only [impl_plain.l0]
    rw [if_pos (by omega), if_pos (by omega), if_pos (by omega), if_pos (by omega), wrap_le i (by omega)]
    exact hr

theorem plain_f (l : List (List Int)) (hl : l.length ≤ 10000) : ∃ r, impl_plain.f 20000 l = some r ∧ r.length = l.length := by
  have h := plain_l0 l hl l.length 20000 0 [] (by omega) (by omega) rfl (by omega)
  simpa [impl_plain.f] using h

theorem outC_len (n : Int) (l : List (List Int)) : (outC n l).length ≤ l.length + 1 := by
  unfold outC
  split
  · omega
  · have h := (foldC_len n l ⟨[], []⟩).2
    rw [List.length_append]
    unfold runC
    simp at h ⊢
    exact h

theorem lens_bytes (l : List ByteArray) : lens (l.map bytesOf) = (l.map ByteArray.size).sum := by
  unfold lens
  rw [List.map_map]
  congr 1
  apply List.map_congr_left
  intro s _
  exact bytesOf_length s

def CompactPost (w : World) (m : Nat) (e : Ending) (w' : World) : Prop :=
  ∃ A c, ∃ r : List ByteArray, r.length = m ∧ e = .returned (.slice A r.length c) ∧ Kd.C Kd.string w' A r.length r ∧ Below w.heap.size w w'

set_option maxRecDepth 100000 in
set_option maxHeartbeats 1000000 in
theorem impl_any (n : Int) (A : Option Addr) (c : Nat) (l : List ByteArray) (w : World) (hn : 0 ≤ n) (hn2 : n ≤ 5000) (hl0 : 0 < l.length) (hl : l.length ≤ 2000) (hls : (l.map ByteArray.size).sum ≤ 2000) (hr : Kd.C Kd.string w A l.length l) :
    Calls Try.prog 10 #[.slice A l.length c, .int .i64 n] w fun e w' => CompactPost w (outC n (l.map bytesOf)).length e w' := by
  have hls2 : lens (l.map bytesOf) ≤ 2000 := by rw [lens_bytes]; exact hls
  have hsz : ∀ s ∈ l, s.size ≤ 1000000 := fun s hs => by
    have h := le_lens (bytesOf s) (l.map bytesOf) (List.mem_map_of_mem hs)
    rw [bytesOf_length] at h
    omega
  have HCALL := Aside0.mk (raw_any A c l w hl hsz hr)
  have HSZ := Aside0.mk hsz
  have HL := Aside0.mk hl
  have HL0 := Aside0.mk hl0
  have HLS := Aside0.mk hls2
  clear hr hls hls2 hl hl0 hsz
  go_enter Try.func10, Try.ntmps10
  go_wp2_with fail
  refine HCALL.out.mono ?_
  rintro e w1 ⟨v, rfl, hrel⟩
  have HB1 := Aside0.mk hrel.bel
  obtain ⟨A1, c1, e1, hc1, hr1⟩ := hrel.reads (by have := HL.out; omega) HSZ.out
  subst e1
  have HR1 := Aside0.mk hr1
  have HC1 := Aside0.mk hc1
  clear hrel hr1 hc1
  have HZ : Aside0 (Calls Try.prog 16 #[.slice A1 l.length c1, .int .i64 n] w1 fun e w' => CompPost w1 (outC n (l.map bytesOf)) e w') := ⟨by
    have h := zz_any n A1 c1 (l.map bytesOf) w1 hn hn2 (by rw [List.length_map]; exact HL0.out) (by rw [List.length_map]; exact HL.out) HLS.out HC1.out HR1.out
    rw [List.length_map] at h
    exact h⟩
  go_wp2_with fail
  refine HZ.out.mono ?_
  rintro e w2 ⟨A2, c2, rfl, hc2, hr2, hb2⟩
  have HB2 := Aside0.mk (below_then HB1.out HB1.out.size hb2)
  obtain ⟨r, hrf, hrl⟩ := plain_f (outC n (l.map bytesOf)) (by have h := outC_len n (l.map bytesOf); rw [List.length_map] at h; have := HL.out; omega)
  have HRF := Aside0.mk hrf
  have HRL := Aside0.mk hrl
  have HC2 := Aside0.mk hc2
  have HR2 := Aside0.mk hr2
  clear hb2 hrf hrl hc2 hr2
  go_wp2_with fail
  refine (impl_plain.calls 20000 A2 c2 (outC n (l.map bytesOf)) r w2 HR2.out HC2.out HRF.out).mono ?_
  rintro e w3 ⟨v3, rfl, ho, hb3⟩
  obtain ⟨A3, c3, e3, hc3, hr3⟩ := Kd.R_reads ho
  subst e3
  have HP : Aside0 (CompactPost w (outC n (l.map bytesOf)).length (.returned (.slice A3 r.length c3)) w3) := ⟨⟨A3, c3, r, HRL.out, rfl, hr3, below_then HB2.out HB2.out.size hb3⟩⟩
  clear ho hb3 hc3 hr3
  go_wp2
  go_ret
  exact HP.out

end Go.Proofs.Ytklihfjchomkmaa
