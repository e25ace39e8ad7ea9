/-
  slices.Insert of one pair into a row of pairs, walked: at the end, where there is room, where there is none.
-/
import Derived.Test.YtblmbbllfiigmaaDoorCov
import Derived.Maps.AppendAt
import Derived.Lib.Overlaps
import Derived.Lib.AppendZerosOnto
import Derived.Laws.NewBlocks
import Derived.Shelf.Spec.SlicesInsert
namespace Go.Proofs.YtblmbbllfiigmaaDoor
open Go.RowKit Go.Proofs.YtblmbbllfiigmaaDoorW.PrintWords Go.Proofs.YtblmbbllfiigmaaDoorW.PrintLast Go.Proofs.YtblmbbllfiigmaaDoorW.PrintMore

theorem info107 : (Tryd.prog.info? 107).map (fun i => (i.zero, i.size, i.bytes)) = some (some (.agg #[.int .u32 0, .slice none 0 0]), 2, 32) := by kernel_rfl
theorem size107 : (Tryd.prog.info? 107).map (·.size) = some 2 := by kernel_rfl

/-- copy(d, s) of pairs, d lying in a block that is known whole. -/
theorem run_copy_two (w : World) (dT sT ty elem : TypeId) (g o dLen dCap : Nat) (a : Addr) (sLen sCap : Nat) (cur : Array Value) (t : TypeId) (cs : List Value) (k : Nat)
    (hu : Tryd.prog.underlying dT = some (.slice elem)) (hs : (Tryd.prog.info? elem).map (·.size) = some 2)
    (hg : w.heap[g]? = some (.cells cur t (0, 0))) (hk : k = Nat.min sLen dLen) (hn : cs.length = k * 2)
    (hsrc : ∀ j v, cs[j]? = some v → w.cell? (a.add j) = some v) (hfit : o + cs.length ≤ cur.size) (h1 : ∀ v ∈ cs, v.oneCell' = true) :
    (Builtin.copy_ #[dT, sT] ty #[.slice (some ⟨g, o, none⟩) dLen dCap, .slice (some a) sLen sCap]).run Tryd.prog w =
      .ok (goInt k) (w.setRow g (splice cur.toList o cs).toArray) := by
  have hl := run_loadCells_list (P := Tryd.prog) w a cs hsrc
  have hst := run_storeCells_at Tryd.prog g o t cs 0 cur w hg (by simpa using hfit) h1
  cases hq : Tryd.prog.info? elem with
  | none => simp [hq] at hs
  | some i =>
    have hi : i.size = 2 := by simpa [hq] using hs
    rw [hn] at hl
    simp [Builtin.copy_, run_underlying hu, Builtin.lenOf, Builtin.firstCells, sizeOf, typeInfo, hq, hi, ← hk, hl, hst, splice]

theorem setRow_grown (w : World) (g : Nat) (cs : Array Value) : w.grownBy (w.setRow g cs) (some g) :=
  ⟨rfl, rfl, rfl, by simp [World.setRow], fun k _ hne => setRow_other w g k cs (by simpa using hne)⟩

theorem ownBlock_cap (A : Option Addr) (n c n' c' : Nat) : (Value.slice A n c).ownBlock = (Value.slice A n' c').ownBlock := by cases A <;> rfl

/-- What Insert leaves. -/
def InsPost (w : World) (base : Nat) (v : Value) (n : Nat) (out : List Value) (e : Ending) (w' : World) : Prop :=
  ∃ v', e = .returned v' ∧ w'.ownsRow base 107 2 v' (n + 1) out ∧ w.grownBy w' v.ownBlock ∧ (v'.ownBlock = v.ownBlock ∨ ∃ b, v'.ownBlock = some b ∧ w.heap.size ≤ b)

set_option maxRecDepth 100000 in
set_option maxHeartbeats 1000000 in
theorem insert_end (base : Nat) (v : Value) (n x : Nat) (cs : List Value) (pa pb : Value) (w : World) (hr : w.ownsRow base 107 2 v n cs) (hx : w.heap[x]? = some (.cells [pa, pb].toArray 107)) (ha : pa.oneCell' = true) (hb : pb.oneCell' = true) (hn : n ≤ 1000000) (hbase : base ≤ w.heap.size) :
    Calls Tryd.prog 58 #[v, .int .i64 n, .slice (some ⟨x, 0, none⟩) 1 1] w (InsPost w base v n (cs ++ [pa, pb])) := by
  obtain ⟨i0, hi, hzz⟩ := Option.map_eq_some_iff.1 info107
  simp only [Prod.mk.injEq] at hzz
  obtain ⟨hz0, hz1, hz2⟩ := hzz
  obtain ⟨A, c, rfl⟩ := own_slice hr
  have hle := own_le hr
  have HR := Aside0.mk hr
  have HN : Aside0 (∀ j u, [pa, pb][j]? = some u → w.cell? ((⟨x, 0, none⟩ : Addr).add j) = some u) := ⟨by
    have := World.news_of_block (cs := [pa, pb].toArray) (t := 107) (fr := (0, 0)) hx
    simpa using this⟩
  have HO : Aside0 (∀ u ∈ [pa, pb], u.oneCell' = true) := ⟨by intro u hu; simp at hu; rcases hu with rfl | rfl; exact ha; exact hb⟩
  have HI := Aside0.mk (And.intro hi (And.intro hz0 (And.intro hz1 hz2)))
  have HB : Aside0 (n + 1 ≤ maxLen ∧ (n + 1) * 32 ≤ 140737488355328) := ⟨by constructor <;> (try simp only [maxLen]) <;> omega⟩
  have HS := Aside0.mk hbase
  have q0 : (0 : Int) ≤ (n : Int) := by omega
  clear hr hx ha hb hi hz0 hz1 hz2 hn hbase
  go_enter Tryd.func58, Tryd.ntmps58
  go_wp2_with ((with_reducible refine gate_builtin (b := .append) (xs := #[.tmp 23, .tmp 24]) rfl ?_); at_builtin; refine wpList_append_own_at w rfl (.tmp 23) (.tmp 24) 99 rfl base 107 i0 (.agg #[.int .u32 0, .slice none 0 0]) 2 32 Tryd.underlying99 HI.out.1 HI.out.2.1 HI.out.2.2.1 HI.out.2.2.2 rfl (by omega) (.slice A n c) n cs rfl HR.out ⟨x, 0, none⟩ 1 1 [pa, pb] rfl rfl HN.out HO.out HB.out.1 HB.out.2 HS.out ?_)
  all_goals
    intro v1 w1 ho hg _ hat
    have HO1 := Aside0.mk ho
    have HG1 := Aside0.mk hg
    have HA1 := Aside0.mk hat
    clear ho hg hat
    go_wp2
    go_ret
    refine ⟨v1, rfl, HO1.out, by first | exact HG1.out | (rw [ownBlock_cap A n c n n]; exact HG1.out), ?_⟩
    rcases HA1.out with h | h
    · first | exact .inl h | (rw [ownBlock_cap A n c n n]; exact .inl h)
    · exact .inr ⟨_, h, Nat.le_refl _⟩

/-- A row's cells with two more of them put in. -/
def put2 (cs : List Value) (i : Nat) (pa pb : Value) : List Value := cs.take (i * 2) ++ [pa, pb] ++ cs.drop (i * 2)

theorem ins_list (L cs : List Value) (pa pb : Value) (i n c : Nat) (htk : L.take (n * 2) = cs) (hcl : cs.length = n * 2) (hL : L.length = c * 2) (hi : i < n) (hn : n + 1 ≤ c) :
    (splice (splice L ((i + 1) * 2) (cs.drop (i * 2))) (i * 2) [pa, pb]).take ((n + 1) * 2) = put2 cs i pa pb := by
  have hd : (cs.drop (i * 2)).length = n * 2 - i * 2 := by rw [List.length_drop, hcl]
  have e1 : (splice L ((i + 1) * 2) (cs.drop (i * 2))).take (i * 2) = cs.take (i * 2) := by
    unfold splice
    rw [List.take_append_of_le_length (by rw [List.length_take]; omega), List.take_take, Nat.min_eq_left (by omega), ← htk, List.take_take, Nat.min_eq_left (by omega)]
  have e2 : (splice L ((i + 1) * 2) (cs.drop (i * 2))).drop (i * 2 + 2) = cs.drop (i * 2) ++ L.drop ((i + 1) * 2 + (cs.drop (i * 2)).length) := by
    unfold splice
    rw [List.drop_append_of_le_length (by rw [List.length_take]; omega), List.drop_eq_nil_of_le (by rw [List.length_take]; omega), List.nil_append]
  have e3 : splice (splice L ((i + 1) * 2) (cs.drop (i * 2))) (i * 2) [pa, pb] = put2 cs i pa pb ++ L.drop ((i + 1) * 2 + (cs.drop (i * 2)).length) := by
    rw [splice, e1]
    show _ ++ ([pa, pb] ++ List.drop (i * 2 + 2) _) = _
    rw [e2, put2]
    simp
  rw [e3, List.take_append_of_le_length, List.take_of_length_le]
  · simp [put2, hcl]; omega
  · simp [put2, hcl]; omega

theorem overlaps_no (w : World) (x g n c off : Nat) (kA kB : Nat) (hne : x ≠ g) (hsa : w.shape? x = some (107, kA)) (hsb : w.shape? g = some (107, kB)) (hkB : kB ≠ 0) (hfa : w.frozen? ⟨x, 0, none⟩ = false) (hfe : w.frozen? ⟨x, kA, none⟩ = false) :
    (callFunc 59 #[.slice (some ⟨x, 0, none⟩) 1 1, .slice (some ⟨g, off, none⟩) n c]).run Tryd.prog w = .ok (.value (.bool false)) w := by
  rw [run_callFunc_extern Tryd.func59 (by kernel_rfl) (by kernel_rfl) (by kernel_rfl) (e := Extern.SlicesOverlaps.overlaps #[99, 99] #[4]) (by kernel_rfl),
      Lib.run_overlaps_apart w 99 4 107 Tryd.underlying99 2 (fun w => Tryd.sizeOf107 w) ⟨x, 0, none⟩ ⟨g, off, none⟩ 1 1 n c hne 107 107 kA kB hsa hsb hkB hfa hfe]
  rfl

set_option maxRecDepth 100000 in
set_option maxHeartbeats 1000000 in
theorem insert_room (base g i n c x : Nat) (cur : Array Value) (cs : List Value) (pa pb : Value) (w : World) (hg : w.heap[g]? = some (.cells cur 107 (0, 0))) (hcur : cur.size = c * 2) (htk : cur.toList.take (n * 2) = cs) (hcl : cs.length = n * 2) (hb : base ≤ g) (hx : w.heap[x]? = some (.cells [pa, pb].toArray 107)) (hne : x ≠ g)
    (hc : ∀ u ∈ cs, u.oneCell' = true) (ha : pa.oneCell' = true) (hpb : pb.oneCell' = true) (hi : i < n) (hn : n + 1 ≤ c) (hc6 : c ≤ maxLen) :
    Calls Tryd.prog 58 #[.slice (some ⟨g, 0, none⟩) n c, .int .i64 i, .slice (some ⟨x, 0, none⟩) 1 1] w (InsPost w base (.slice (some ⟨g, 0, none⟩) n c) n (put2 cs i pa pb)) := by
  have q0 : (0 : Int) ≤ (i : Int) := by omega
  have q1 : (i : Int) ≤ (n : Int) := by omega
  have q2 : ¬ ((i : Int) = (n : Int)) := by omega
  have q3 : ¬ (c : Int) < (n : Int) + 1 := by omega
  have q4 : ¬ c = i := by omega
  have q5 : ¬ c = i + 1 := by omega
  have hc63 : c ≤ 9223372036854775807 := by unfold maxLen at hc6; omega
  have w1 : IntKind.i64.wrap ((n : Int) + 1) = (n : Int) + 1 := by rw [IntKind.wrap_i64]; omega
  have w2 : IntKind.i64.wrap ((i : Int) + 1) = (i : Int) + 1 := by rw [IntKind.wrap_i64]; omega
  have q6 : (0 : Int) ≤ (i : Int) + 1 := by omega
  have q7 : (i : Int) ≤ (n : Int) + 1 := by omega
  have q8 : (0 : Int) ≤ (n : Int) + 1 := by omega
  have q9 : (n : Int) + 1 ≤ (c : Int) := by omega
  have qa : (i : Int) + 1 ≤ (n : Int) + 1 := by omega
  have t1 : ((n : Int) + 1).toNat = n + 1 := by omega
  have t2 : ((i : Int) + 1).toNat = i + 1 := by omega
  have HG := Aside0.mk hg
  have HX := Aside0.mk hx
  have hov : ∀ off lb cb, (callFunc 59 #[.slice (some ⟨x, 0, none⟩) 1 1, .slice (some ⟨g, off, none⟩) lb cb]).run Tryd.prog w = .ok (.value (.bool false)) w := fun off lb cb =>
    overlaps_no w x g lb cb off 2 (c * 2) hne (by simp [World.shape?, hx]) (by simp [World.shape?, hg, hcur]) (by omega) (frozB hx 0) (frozB hx 2)
  have HCUR := Aside0.mk hcur
  have HTK := Aside0.mk htk
  have HCL := Aside0.mk hcl
  have HC := Aside0.mk hc
  have HNE := Aside0.mk hne
  have HAB := Aside0.mk (And.intro ha hpb)
  have HB := Aside0.mk hb
  have HC6 := Aside0.mk hc6
  clear hg hx hcur htk hcl hc hne ha hpb hb hc6
  go_enter Tryd.func58, Tryd.ntmps58
  go_wp2_with (simp only [hov])
  go_still_tail 8, (by kernel_rfl)
  change wpList _ _ _ _ _ w.drew
  have hgd : w.drew.heap[g]? = some (.cells cur 107 (0, 0)) := HG.out
  have hdl : (cs.drop (i * 2)).length = (n - i) * 2 := by rw [List.length_drop, HCL.out]; omega
  have hfit1 : (i + 1) * 2 + (cs.drop (i * 2)).length ≤ cur.size := by rw [hdl, HCUR.out]; omega
  have hcp1 := fun ty dc sc => run_copy_two w.drew 99 99 ty 107 g ((i + 1) * 2) (n - i) dc ⟨g, i * 2, none⟩ (n + 1 - i) sc cur 107 (cs.drop (i * 2)) (n - i) Tryd.underlying99 size107 hgd (by simp only [Nat.min_def]; split <;> omega) hdl
    (fun j v hj => by
      rw [add_off]
      have hj2 : (cur.toList.take (n * 2))[i * 2 + j]? = some v := by rw [HTK.out]; rwa [List.getElem?_drop] at hj
      rw [List.getElem?_take] at hj2
      split at hj2
      · have : w.drew.cell? ⟨g, i * 2 + j, none⟩ = cur.toList[i * 2 + j]? := by
          have := cellB (l := cur.toList) (show w.drew.heap[g]? = some (.cells cur.toList.toArray 107) by simpa using hgd) (i * 2 + j)
          exact this
        rw [this]; exact hj2
      · cases hj2)
    hfit1 (fun u hu => HC.out u (List.mem_of_mem_drop hu))
  obtain ⟨W1, hW1⟩ : ∃ W1, W1 = w.drew.setRow g (splice cur.toList ((i + 1) * 2) (cs.drop (i * 2))).toArray := ⟨_, rfl⟩
  rw [← hW1] at hcp1
  have hg1 : W1.heap[g]? = some (.cells (splice cur.toList ((i + 1) * 2) (cs.drop (i * 2))).toArray 107 (0, 0)) := by rw [hW1]; exact setRow_heap w.drew g cur _ 107 _ hgd
  have hx1 : W1.heap[x]? = some (.cells [pa, pb].toArray 107) := by rw [hW1, setRow_other _ _ _ _ HNE.out]; exact HX.out
  have hgr1 : w.grownBy W1 (some g) := by rw [hW1]; exact World.grownBy.trans (grDrew w _) (setRow_grown w.drew g _)
  have hsz1 : (splice cur.toList ((i + 1) * 2) (cs.drop (i * 2))).length = c * 2 := by rw [length_splice _ _ _ (by simpa using hfit1)]; simpa using HCUR.out
  have hcp2 := fun ty dc => run_copy_two W1 99 99 ty 107 g (i * 2) (n + 1 - i) dc ⟨x, 0, none⟩ 1 1 _ 107 [pa, pb] 1 Tryd.underlying99 size107 hg1 (by simp only [Nat.min_def]; split <;> omega) rfl
    (fun j v hj => by rw [add_plain, cellB hx1 j]; exact hj) (by rw [List.size_toArray, hsz1]; simp; omega) (fun u hu => by simp at hu; rcases hu with rfl | rfl; exact HAB.out.1; exact HAB.out.2)
  obtain ⟨W2, hW2⟩ : ∃ W2, W2 = W1.setRow g (splice (splice cur.toList ((i + 1) * 2) (cs.drop (i * 2))).toArray.toList (i * 2) [pa, pb]).toArray := ⟨_, rfl⟩
  rw [← hW2] at hcp2
  have hg2 : Aside0 (W2.heap[g]? = some (.cells (splice (splice cur.toList ((i + 1) * 2) (cs.drop (i * 2))) (i * 2) [pa, pb]).toArray 107 (0, 0))) := ⟨by rw [hW2]; exact setRow_heap W1 g _ _ 107 _ hg1⟩
  have hgr2 : Aside0 (w.grownBy W2 (some g)) := ⟨by rw [hW2]; exact World.grownBy.trans hgr1 (setRow_grown W1 g _)⟩
  have HSZ := Aside0.mk hsz1
  clear hgd hdl hfit1 hW1 hW2 hg1 hx1 hgr1 hsz1
  refine wpList_copy_runI _ rfl (.tmp 73) (.tmp 76) 99 99 rfl _ _ rfl rfl (hcp1 _ _ _) ?_
  go_wp2_with ((with_reducible refine gate_builtin (b := .copy) (xs := #[.tmp 80, .tmp 81]) rfl ?_); refine wpList_copy_runI _ rfl (.tmp 80) (.tmp 81) 99 99 rfl (.slice (some ⟨g, i * 2, none⟩) (n + 1 - i) (c - i)) (.slice (some ⟨x, 0, none⟩) 1 1) rfl rfl (hcp2 _ _) ?_)
  go_ret
  refine ⟨.slice (some ⟨g, 0, none⟩) (n + 1) c, rfl, ⟨?_, .inr ⟨g, c, _, rfl, HB.out, hg2.out, hn, HC6.out, ?_, ?_⟩⟩, hgr2.out, .inl rfl⟩
  · have := HCL.out
    simp [put2, this]; omega
  · rw [List.size_toArray, length_splice _ _ _ (by rw [HSZ.out]; simp; omega), HSZ.out]
  · exact ins_list cur.toList cs pa pb i n c HTK.out HCL.out (by simpa using HCUR.out) hi hn

end Go.Proofs.YtblmbbllfiigmaaDoor
