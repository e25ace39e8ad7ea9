/-
  The thin package's raw, walked: texts as rows of bytes.
-/
import Derived.Test.YtklihfjchomkmaaRows
import Derived.Test.YtklihfjchomkmaaPFnCompactWiderx1
import Derived.Lib.Hide
namespace Go.Proofs.Ytklihfjchomkmaa
open Go.RowKit Go.Proofs.YtklihfjchomkmaaW.PrintWords Go.Proofs.YtklihfjchomkmaaW.PrintLast Go.Proofs.YtklihfjchomkmaaW.PrintMore

/-- A value is a slice of a block of bytes that reads as a text. -/
structure TextAt (w : World) (base : Nat) (u : Value) (s : ByteArray) : Prop where
  ex : ∃ g c, u = .slice (some ⟨g, 0, none⟩) s.size c ∧ s.size ≤ c ∧ base ≤ g ∧ (∃ cells m, w.heap[g]? = some (.cells cells 5 m)) ∧ ∀ j, j < s.size → w.cell? ⟨g, j, none⟩ = some (.int .u8 (s.data.toList.getD j 0).toNat)

theorem TextAt.move {w w1 : World} {base : Nat} {u : Value} {s : ByteArray} (h : TextAt w base u s) (hm : ∀ (g : Nat) (cells : Array Value) (m : Nat × Nat), w.heap[g]? = some (.cells cells 5 m) → w1.heap[g]? = w.heap[g]?) : TextAt w1 base u s := by
  obtain ⟨g, c, h1, h2, h3, ⟨cells, m, h4⟩, h5⟩ := h.ex
  have e := hm g cells m h4
  exact ⟨g, c, h1, h2, h3, ⟨cells, m, e.trans h4⟩, fun j hj => (World.cell?_of_block (a := ⟨g, j, none⟩) e).trans (h5 j hj)⟩

structure RawRel (w : World) (l : List ByteArray) (v : Value) (k : Nat) (wr : World) : Prop where
  row : ∃ vals : List Value, vals.length = k ∧ wr.ownsRow w.heap.size 49 1 v vals.length vals ∧ ∀ (i : Nat) (u : Value) (s : ByteArray), vals[i]? = some u → l[i]? = some s → TextAt wr w.heap.size u s
  bel : Below w.heap.size w wr

theorem RawRel.step {w wr w1 : World} {l : List ByteArray} {v v1 : Value} {vals : List Value} {s : ByteArray}
    (hb : Below w.heap.size w wr) (ho : wr.ownsRow w.heap.size 49 1 v vals.length vals) (ht : ∀ (i : Nat) (u : Value) (s : ByteArray), vals[i]? = some u → l[i]? = some s → TextAt wr w.heap.size u s)
    (hs : l[vals.length]? = some s)
    (ho1 : w1.ownsRow w.heap.size 49 1 v1 (vals ++ [Value.slice (some ⟨wr.heap.size, 0, none⟩) s.size (grownCap wr s.size 0 5)]).length (vals ++ [Value.slice (some ⟨wr.heap.size, 0, none⟩) s.size (grownCap wr s.size 0 5)]))
    (hb1 : Below w.heap.size w w1) (hg : (Lib.bytesWorld wr 5 s).grownBy w1 v.ownBlock) : RawRel w l v1 (vals.length + 1) w1 := by
  have hold : Below wr.heap.size wr (Lib.bytesWorld wr 5 s) := bytes_below (Below.refl _ _) (Nat.le_refl _) 5 s
  have ho2 : (Lib.bytesWorld wr 5 s).ownsRow w.heap.size 49 1 v vals.length vals := pw_own_below ho hold
  have mv : ∀ (g : Nat) (cells : Array Value) (m : Nat × Nat), (Lib.bytesWorld wr 5 s).heap[g]? = some (.cells cells 5 m) → w1.heap[g]? = (Lib.bytesWorld wr 5 s).heap[g]? := by
    intro g cells m h
    refine hg.block g (Array.getElem?_eq_some_iff.1 h).1 (fun e => ?_)
    obtain ⟨c2, h2⟩ := own_typed ho2 g e.symm
    rw [h] at h2
    injection h2 with h2
    injection h2 with _ h3
    exact absurd h3 (by decide)
  refine ⟨⟨vals ++ [Value.slice (some ⟨wr.heap.size, 0, none⟩) s.size (grownCap wr s.size 0 5)], by simp, ho1, fun i u s' hi hs' => ?_⟩, hb1⟩
  rcases Nat.lt_or_ge i vals.length with h | h
  · rw [List.getElem?_append_left h] at hi
    have h1 := (ht i u s' hi hs').move (w1 := Lib.bytesWorld wr 5 s) (fun g cells m h => hold.block g (Array.getElem?_eq_some_iff.1 h).1)
    exact h1.move mv
  · have hi' : i = vals.length := by
      have := (List.getElem?_eq_some_iff.1 hi).1
      simp at this
      omega
    subst hi'
    rw [hs] at hs'
    injection hs' with hs'
    subst hs'
    simp at hi
    subst hi
    have h1 : TextAt (Lib.bytesWorld wr 5 s) w.heap.size (.slice (some ⟨wr.heap.size, 0, none⟩) s.size (grownCap wr s.size 0 5)) s :=
      ⟨_, _, rfl, grownCap_ge _ _ _ _, hb.size, ⟨_, _, Lib.bytesWorld_at_new wr 5 s⟩, fun j hj => Lib.bytesWorld_cell wr 5 s j hj⟩
    exact h1.move mv

theorem RawRel.reads {w wr : World} {l : List ByteArray} {v : Value} (h : RawRel w l v l.length wr) (hl : l.length ≤ 1000000) (hs : ∀ s ∈ l, s.size ≤ 1000000) :
    ∃ A c, v = .slice A (l.map bytesOf).length c ∧ (l.map bytesOf).length ≤ c ∧ Kd.C (Kd.slice 5 (Kd.int .u8)) wr A (l.map bytesOf).length (l.map bytesOf) := by
  obtain ⟨vals, hlen, ho, ht⟩ := h.row
  have hml : (l.map bytesOf).length = vals.length := by rw [List.length_map, hlen]
  rw [hml]
  rcases Nat.eq_zero_or_pos vals.length with h0 | h0
  · obtain ⟨A, c, rfl⟩ := own_slice ho
    refine ⟨A, c, rfl, by omega, ?_, by omega, fun hp => by omega⟩
    exact hml
  · obtain ⟨g, cap, rfl, _, _⟩ := ho.form h0
    have hle : vals.length ≤ cap := by
      rcases ho.2 with ⟨e, _⟩ | ⟨g', cap', cur, e, _, _, h, _⟩
      · cases e
      · injection e with _ _ e3; omega
    refine ⟨_, cap, rfl, hle, ?_, by omega, fun _ => ⟨_, rfl, fun j p hp => ?_⟩⟩
    · exact hml
    · rw [List.getElem?_map] at hp
      obtain ⟨s, hsj, rfl⟩ := Option.map_eq_some_iff.1 hp
      have hj : j < vals.length := by
        have := (List.getElem?_eq_some_iff.1 hsj).1
        omega
      have hu : vals[j]? = some vals[j] := List.getElem?_eq_getElem hj
      obtain ⟨g2, c2, e1, e2, _, _, e5⟩ := (ht j _ s hu hsj).ex
      have hsz : s.size ≤ 1000000 := hs s (List.mem_of_getElem? hsj)
      refine ⟨[vals[j]], rfl, ⟨some ⟨g2, 0, none⟩, c2, ?_, by rw [bytesOf_length]; exact e2, ?_⟩, fun i u hi => ?_⟩
      · rw [e1, bytesOf_length]
      · refine Kd.C_of_reads (d := (0 : Int)) ⟨rfl, by rw [bytesOf_length]; omega, fun _ => ⟨_, rfl, fun i hi => ?_⟩⟩
        rw [bytesOf_length] at hi
        rw [add_plain, e5 i hi]
        have hd : i < s.data.toList.length := by rw [data_length]; exact hi
        simp [bytesOf, List.getD_eq_getElem?_getD, List.getElem?_eq_getElem hd]
      · have hi0 : i = 0 := by
          have := (List.getElem?_eq_some_iff.1 hi).1
          simp at this
          exact this
        subst hi0
        simp at hi
        subst hi
        have := ho.cells (g := g) rfl j _ hu
        simpa [Kd.slice] using this

theorem info49 : (Try.prog.info? 49).map (fun i => (i.zero, i.size, i.bytes)) = some (some (.slice none 0 0), 1, 24) := by kernel_rfl

set_option maxRecDepth 100000 in
set_option maxHeartbeats 1000000 in
theorem raw_any (A : Option Addr) (c : Nat) (l : List ByteArray) (w : World) (hl : l.length ≤ 2000) (hs : ∀ s ∈ l, s.size ≤ 1000000) (hr : Kd.C Kd.string w A l.length l) :
    Calls Try.prog 17 #[.slice A l.length c] w fun e w' => ∃ v, e = .returned v ∧ RawRel w l v l.length w' := by
  have HR := Aside0.mk hr
  have HS := Aside0.mk hs
  clear hr hs
  go_enter Try.func17, Try.ntmps17
  go_wp2
  go_loopw [3, 8] (fun v i wr => ∃ k : Nat, k ≤ l.length ∧ i = .int .i64 k ∧ Aside0 (RawRel w l v k wr)) (fun _ i _ => l.length - (intOf i).toNat)
  case atStart => exact ⟨0, Nat.zero_le _, rfl, ⟨⟨⟨[], rfl, own_nil _ _ _ _, fun i u s h => by simp at h⟩, Below.refl _ _⟩⟩⟩
  case round =>
    obtain ⟨k, hk, rfl, hrel⟩ := hrel
    by_cases hlt : k < l.length
    · have p1 : (0 : Int) ≤ (k : Int) := by omega
      have p2 : (k : Int) < (l.length : Int) := by omega
      obtain ⟨ad, e, hx⟩ := Kd.at_string HR.out k p1 p2
      cases e
      replace hx := (hrel.out.bel.cell (World.block_lt_of_cell? w _ hx)).trans hx
      rw [Int.toNat_natCast] at hx
      obtain ⟨vals, hlen, ho, ht⟩ := hrel.out.row
      have hsk : l[k]? = some (rdOf ByteArray.empty l k) := by rw [rdOf, Int.toNat_natCast, List.getD_eq_getElem?_getD, List.getElem?_eq_getElem hlt]; rfl
      have hsz : (rdOf ByteArray.empty l k).size ≤ 1000000 := HS.out _ (List.mem_of_getElem? hsk)
      generalize rdOf ByteArray.empty l k = s at *
      obtain ⟨Av, cv, ev⟩ := own_slice ho
      subst ev
      have kb := fun W => print_bytes (P := Try.prog) 9 49 5 Try.underlying9 Try.underlying49 Try.underlying5 s W
      have HK := Aside0.mk hlen
      have HB := Aside0.mk hrel.out.bel
      have HO := Aside0.mk ho
      have HT := Aside0.mk ht
      have HSK := Aside0.mk hsk
      have hv : vals.length ≤ 2000 := by omega
      have HV := Aside0.mk hv
      clear hlen ho ht hrel hsk hv
      go_wp2_with ((with_reducible refine gate_builtin (b := .append) (xs := #[.tmp 12, .tmp 15]) rfl ?_); at_builtin; refine print_append (w0 := w) w.heap.size rfl (.tmp 12) (.tmp 15) 38 49 (.slice none 0 0) 24 rfl Try.underlying38 info49 rfl (by decide) (.slice Av vals.length cv) vals (.slice (some ⟨wr.heap.size, 0, none⟩) s.size (grownCap wr s.size 0 5)) ?c1 ?c2 rfl ?c3 ?c4 ?c5 ?c6 ?c7)
      case c1 => rfl
      case c2 => rfl
      case c3 => exact pw_own_below HO.out (bytes_below (Below.refl _ _) (Nat.le_refl _) 5 s)
      case c4 => exact bytes_below HB.out HB.out.size 5 s
      case c5 => exact (bytes_below HB.out HB.out.size 5 s).size
      case c6 => have := HV.out; omega
      case c7 =>
        intro v1 w1 ho1 hb1 hg1 _
        have HR1 : Aside0 (RawRel w l v1 (vals.length + 1) w1) := ⟨RawRel.step HB.out HO.out HT.out (by rw [HK.out]; exact HSK.out) (by simpa using ho1) hb1 hg1⟩
        clear ho1 hb1 hg1
        go_wp2
        go_roundw
        case rel => exact ⟨k + 1, by omega, by go_num, by have h := HR1; rw [HK.out] at h; exact h⟩
        case measure => simp [intOf]; omega
    · go_wp2
      go_ret
      have : k = l.length := by omega
      subst this
      exact ⟨_, rfl, hrel.out⟩

end Go.Proofs.Ytklihfjchomkmaa
