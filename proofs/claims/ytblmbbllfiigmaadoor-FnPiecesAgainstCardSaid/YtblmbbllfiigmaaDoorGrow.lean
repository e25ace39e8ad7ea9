/-
  slices.Insert of one pair where there is no room, walked; then Insert and Replace in one statement each.
-/
import Derived.Test.YtblmbbllfiigmaaDoorIns
namespace Go.Proofs.YtblmbbllfiigmaaDoor
open Go.RowKit Go.Proofs.YtblmbbllfiigmaaDoorW.PrintWords Go.Proofs.YtblmbbllfiigmaaDoorW.PrintLast Go.Proofs.YtblmbbllfiigmaaDoorW.PrintMore

theorem ins_list2 (R cs : List Value) (pa pb : Value) (i n : Nat) (hR : R.take (i * 2) = cs.take (i * 2)) (hcl : cs.length = n * 2) (hi : i < n) :
    (splice (splice R (i * 2) [pa, pb]) ((i + 1) * 2) (cs.drop (i * 2))).take ((n + 1) * 2) = put2 cs i pa pb := by
  have e1 : splice R (i * 2) [pa, pb] = cs.take (i * 2) ++ ([pa, pb] ++ R.drop (i * 2 + 2)) := by rw [splice, hR]; rfl
  have h2 : (cs.take (i * 2) ++ ([pa, pb] ++ R.drop (i * 2 + 2))).take ((i + 1) * 2) = cs.take (i * 2) ++ [pa, pb] := by
    rw [← List.append_assoc, List.take_append_of_le_length (by simp [hcl]; omega), List.take_of_length_le (by simp [hcl]; omega)]
  rw [e1, splice, h2, ← List.append_assoc, List.take_append_of_le_length (by simp [hcl]; omega), List.take_of_length_le (by simp [hcl]; omega)]
  rfl

set_option maxRecDepth 100000 in
set_option maxHeartbeats 1000000 in
theorem insert_grow (base g i n c x : Nat) (cur : Array Value) (cs : List Value) (pa pb : Value) (w : World) (hg : w.heap[g]? = some (.cells cur 107 (0, 0))) (htk : cur.toList.take (n * 2) = cs) (hcl : cs.length = n * 2) (hbase : base ≤ w.heap.size) (hx : w.heap[x]? = some (.cells [pa, pb].toArray 107))
    (hc : ∀ u ∈ cs, u.oneCell' = true) (ha : pa.oneCell' = true) (hpb : pb.oneCell' = true) (hi : i < n) (hn : c < n + 1) (hnc : n ≤ c) (hbig : n ≤ 1000000) :
    Calls Tryd.prog 58 #[.slice (some ⟨g, 0, none⟩) n c, .int .i64 i, .slice (some ⟨x, 0, none⟩) 1 1] w (InsPost w base (.slice (some ⟨g, 0, none⟩) n c) n (put2 cs i pa pb)) := by
  obtain ⟨i0, hi0, hzz⟩ := Option.map_eq_some_iff.1 info107
  simp only [Prod.mk.injEq] at hzz
  obtain ⟨hz0, hz1, hz2⟩ := hzz
  have hcs : ∀ (W : World), W.heap[g]? = w.heap[g]? → ∀ j v, cs[j]? = some v → W.cell? ⟨g, j, none⟩ = some v := fun W hW j v hj => by
    have h1 : W.heap[g]? = some (.cells cur.toList.toArray 107) := by rw [hW]; simpa using hg
    rw [cellB h1 j]
    rw [← htk, List.getElem?_take] at hj
    split at hj
    · exact hj
    · cases hj
  have hold : (Builtin.firstCells i0.size i (.slice (some ⟨g, 0, none⟩) i c)).run Tryd.prog w.drew = .ok (cs.take (i * 2)).toArray w.drew := by
    rw [hz1]
    exact run_firstCells_some w.drew 2 i ⟨g, 0, none⟩ i c (cs.take (i * 2)) (by rw [List.length_take]; omega) (fun j v hj => by
      rw [add_plain]
      rw [List.getElem?_take] at hj
      split at hj
      · exact hcs w.drew rfl j v hj
      · cases hj)
  obtain ⟨G, hG⟩ : ∃ G, G = grownCap w (n + 1) c 107 := ⟨_, rfl⟩
  have hGn : n + 1 ≤ G := by rw [hG]; exact grownCap_ge w _ _ _
  have hGm : G ≤ maxLen := by rw [hG]; exact grownCap_le_maxLen w _ _ _ (by unfold maxLen; omega)
  have hG63 : G ≤ 9223372036854775807 := by unfold maxLen at hGm; omega
  have hik : i + (n + 1 - i) = n + 1 := by omega
  have hkk : (n : Int) + 1 - (i : Int) = ((n + 1 - i : Nat) : Int) := by omega
  obtain ⟨ROW, hROW⟩ : ∃ ROW : Array Value, ROW = (cs.take (i * 2)).toArray ++ Builtin.zeroCells (Value.agg #[.int .u32 0, .slice none 0 0]).cells (n + 1 - i) ++ Builtin.zeroCells (Value.agg #[.int .u32 0, .slice none 0 0]).cells (G - (n + 1)) := ⟨_, rfl⟩
  have hrz : ∀ ty, (Builtin.append_ #[99, 3] ty #[.slice (some ⟨g, 0, none⟩) i c, .int .i64 ((n : Int) + 1 - (i : Int))]).run Tryd.prog w =
      .ok (.slice (some ⟨w.heap.size, 0, none⟩) (n + 1) G) (w.drew.alloc (.cells ROW 107)) := fun ty => by
    have h := Lib.run_append_grow_zeros w 99 3 ty 107 i0 _ .i64 .i64 Tryd.underlying99 Tryd.underlying3 hi0 hz0 (some ⟨g, 0, none⟩) i c (cs.take (i * 2)) hold (n + 1 - i) (by omega) (by omega) (by omega) (by omega) (by rw [hz2]; omega) (by rw [hz2, hik]; exact growslice_fits hn (by omega))
    rw [hik] at h
    rw [hkk, hROW, hG]
    exact h
  have hRs : ROW.size = G * 2 := by
    rw [hROW]
    simp [Builtin.zeroCells, Value.cells, hcl]
    omega
  have hRt : ROW.toList.take (i * 2) = cs.take (i * 2) := by
    rw [hROW]
    simp only [Array.toList_append, List.append_assoc]
    rw [List.take_append_of_le_length (by simp [hcl]; omega), List.take_of_length_le (by rw [List.length_take]; omega)]
  obtain ⟨W0, hW0⟩ : ∃ W0, W0 = w.drew.alloc (.cells ROW 107) := ⟨_, rfl⟩
  rw [← hW0] at hrz
  have hN0 : W0.heap[w.heap.size]? = some (.cells ROW 107 (0, 0)) := by rw [hW0]; exact blk_new w.drew _
  have hb0 : Below w.heap.size w W0 := by rw [hW0]; exact below_alloc (w := w) (below_drew (Below.refl _ w)) _
  have hx0 : W0.heap[x]? = some (.cells [pa, pb].toArray 107) := (hb0.block x (ltB hx)).trans hx
  have hxN : x ≠ w.heap.size := by have := ltB hx; omega
  have hgN : g ≠ w.heap.size := by have := ltB hg; omega
  have hRl : ROW.toList.length = G * 2 := by simpa using hRs
  have hcpA := fun ty dc => run_copy_two W0 99 99 ty 107 w.heap.size (i * 2) (n + 1 - i) dc ⟨x, 0, none⟩ 1 1 ROW 107 [pa, pb] 1 Tryd.underlying99 size107 hN0 (by simp only [Nat.min_def]; split <;> omega) rfl
    (fun j v hj => by rw [add_plain, cellB hx0 j]; exact hj) (by rw [hRs]; simp; omega) (fun u hu => by simp at hu; rcases hu with rfl | rfl; exact ha; exact hpb)
  obtain ⟨W1, hW1⟩ : ∃ W1, W1 = W0.setRow w.heap.size (splice ROW.toList (i * 2) [pa, pb]).toArray := ⟨_, rfl⟩
  rw [← hW1] at hcpA
  have hN1 : W1.heap[w.heap.size]? = some (.cells (splice ROW.toList (i * 2) [pa, pb]).toArray 107 (0, 0)) := by rw [hW1]; exact setRow_heap W0 _ _ _ 107 _ hN0
  have hb1 : Below w.heap.size w W1 := by rw [hW1]; exact below_setRow hb0 (Nat.le_refl _) _
  have hs1 : (splice ROW.toList (i * 2) [pa, pb]).length = G * 2 := by rw [length_splice _ _ _ (by rw [hRl]; simp; omega), hRl]
  have hdl : (cs.drop (i * 2)).length = (n - i) * 2 := by rw [List.length_drop, hcl]; omega
  have hcpB := fun ty dc sc => run_copy_two W1.drew 99 99 ty 107 w.heap.size ((i + 1) * 2) (n - i) dc ⟨g, i * 2, none⟩ (n - i) sc _ 107 (cs.drop (i * 2)) (n - i) Tryd.underlying99 size107 hN1 (by simp) hdl
    (fun j v hj => by
      rw [add_off]
      rw [List.getElem?_drop] at hj
      exact hcs W1.drew (hb1.block g (ltB hg)) _ v hj)
    (by rw [List.size_toArray, hs1, hdl]; omega) (fun u hu => hc u (List.mem_of_mem_drop hu))
  obtain ⟨W2, hW2⟩ : ∃ W2, W2 = W1.drew.setRow w.heap.size (splice (splice ROW.toList (i * 2) [pa, pb]).toArray.toList ((i + 1) * 2) (cs.drop (i * 2))).toArray := ⟨_, rfl⟩
  rw [← hW2] at hcpB
  have hN2 : Aside0 (W2.heap[w.heap.size]? = some (.cells (splice (splice ROW.toList (i * 2) [pa, pb]) ((i + 1) * 2) (cs.drop (i * 2))).toArray 107 (0, 0))) := ⟨by rw [hW2]; exact setRow_heap W1.drew _ _ _ 107 _ hN1⟩
  have hb2 : Aside0 (Below w.heap.size w W2) := ⟨by rw [hW2]; exact below_setRow (below_drew hb1) (Nat.le_refl _) _⟩
  have HS1 := Aside0.mk hs1
  have HDL := Aside0.mk hdl
  have HRT := Aside0.mk hRt
  have HCL := Aside0.mk hcl
  have HBASE := Aside0.mk hbase
  have HGM := Aside0.mk hGm
  have q0 : (0 : Int) ≤ (i : Int) := by omega
  have q1 : (i : Int) ≤ (n : Int) := by omega
  have q2 : ¬ ((i : Int) = (n : Int)) := by omega
  have q3 : (c : Int) < (n : Int) + 1 := by omega
  have q4 : ¬ c = i := by omega
  have q5 : ¬ G = i := by omega
  have q6 : ¬ G = i + 1 := by omega
  have hc63 : c ≤ 9223372036854775807 := by omega
  have w1 : IntKind.i64.wrap ((n : Int) + 1) = (n : Int) + 1 := by rw [IntKind.wrap_i64]; omega
  have w2 : IntKind.i64.wrap ((i : Int) + 1) = (i : Int) + 1 := by rw [IntKind.wrap_i64]; omega
  have w3 : IntKind.i64.wrap ((n : Int) + 1 - (i : Int)) = (n : Int) + 1 - (i : Int) := by rw [IntKind.wrap_i64]; omega
  have q7 : (0 : Int) ≤ (i : Int) + 1 := by omega
  have q8 : (i : Int) ≤ (n : Int) + 1 := by omega
  have qa : (i : Int) + 1 ≤ (n : Int) + 1 := by omega
  have qb : (i : Int) ≤ (c : Int) := by omega
  have t2 : ((i : Int) + 1).toNat = i + 1 := by omega
  clear hcs hold hG hROW hRs hRt hW0 hN0 hb0 hx0 hxN hgN hRl hW1 hN1 hb1 hs1 hdl hW2 hg hx htk hcl hc ha hpb hi0 hz0 hz1 hz2 hbase hGm hik hkk
  go_enter Tryd.func58, Tryd.ntmps58
  go_wp2_with (first
    | ((with_reducible refine gate_builtin (b := .append) (xs := #[.tmp 34, .tmp 39]) rfl ?_); refine Lib.wpList_append_run _ rfl (.tmp 34) (.tmp 39) 99 3 rfl _ _ rfl rfl _ _ (hrz _) ?_)
    | ((with_reducible refine gate_builtin (b := .copy) (xs := #[.tmp 43, .tmp 44]) rfl ?_); refine wpList_copy_runI _ rfl (.tmp 43) (.tmp 44) 99 99 rfl (.slice (some ⟨w.heap.size, i * 2, none⟩) (n + 1 - i) (G - i)) (.slice (some ⟨x, 0, none⟩) 1 1) rfl rfl (hcpA _ _) ?_))
  go_still_tail 8, (by kernel_rfl)
  change wpList _ _ _ _ _ W1.drew
  refine wpList_copy_runI _ rfl (.tmp 50) (.tmp 53) 99 99 rfl (.slice (some ⟨w.heap.size, (i + 1) * 2, none⟩) (n - i) (G - (i + 1))) (.slice (some ⟨g, i * 2, none⟩) (n - i) (c - i)) rfl rfl (hcpB _ _ _) ?_
  go_wp2
  go_ret
  refine ⟨.slice (some ⟨w.heap.size, 0, none⟩) (n + 1) G, rfl, ⟨?_, .inr ⟨w.heap.size, G, _, rfl, HBASE.out, hN2.out, hGn, HGM.out, ?_, ?_⟩⟩, grown_of_below hb2.out _, .inr ⟨_, rfl, Nat.le_refl _⟩⟩
  · have := HCL.out
    simp [put2, this]; omega
  · rw [List.size_toArray, length_splice _ _ _ (by rw [HS1.out, HDL.out]; omega), HS1.out]
  · exact ins_list2 ROW.toList cs pa pb i n HRT.out HCL.out hi

theorem insert_any (base : Nat) (v : Value) (n i x : Nat) (cs : List Value) (pa pb : Value) (w : World) (hr : w.ownsRow base 107 2 v n cs) (hx : w.heap[x]? = some (.cells [pa, pb].toArray 107)) (hne : some x ≠ v.ownBlock)
    (hc : ∀ u ∈ cs, u.oneCell' = true) (ha : pa.oneCell' = true) (hpb : pb.oneCell' = true) (hi : i ≤ n) (hbig : n ≤ 1000000) (hbase : base ≤ w.heap.size) :
    Calls Tryd.prog 58 #[v, .int .i64 i, .slice (some ⟨x, 0, none⟩) 1 1] w (InsPost w base v n (put2 cs i pa pb)) := by
  by_cases hin : i = n
  · subst hin
    have h := insert_end base v i x cs pa pb w hr hx ha hpb hbig hbase
    have e : put2 cs i pa pb = cs ++ [pa, pb] := by
      have := hr.1
      rw [put2, List.take_of_length_le (by omega), List.drop_eq_nil_of_le (by omega), List.append_nil]
    rw [e]; exact h
  · rcases hr.2 with ⟨_, h0⟩ | ⟨g, cap, cur, rfl, hb, hg, hncap, hcm, hsz, htk⟩
    · omega
    · by_cases hroom : n + 1 ≤ cap
      · exact insert_room base g i n cap x cur cs pa pb w hg hsz htk hr.1 hb hx (fun e => hne (by rw [e]; rfl)) hc ha hpb (by omega) hroom hcm
      · exact insert_grow base g i n cap x cur cs pa pb w hg htk hr.1 hbase hx hc ha hpb (by omega) (by omega) hncap hbig

set_option maxRecDepth 100000 in
set_option maxHeartbeats 1000000 in
theorem replace_any (base : Nat) (v : Value) (n i x : Nat) (cs : List Value) (pa pb : Value) (w : World) (hr : w.ownsRow base 107 2 v n cs) (hx : w.heap[x]? = some (.cells [pa, pb].toArray 107)) (hne : some x ≠ v.ownBlock)
    (hc : ∀ u ∈ cs, u.oneCell' = true) (ha : pa.oneCell' = true) (hpb : pb.oneCell' = true) (hi : i ≤ n) (hbig : n ≤ 1000000) (hbase : base ≤ w.heap.size) :
    Calls Tryd.prog 53 #[v, .int .i64 i, .int .i64 i, .slice (some ⟨x, 0, none⟩) 1 1] w (InsPost w base v n (put2 cs i pa pb)) := by
  have H := Aside0.mk (insert_any base v n i x cs pa pb w hr hx hne hc ha hpb hi hbig hbase)
  rcases hr.2 with ⟨rfl, h0⟩ | ⟨g, cap, cur, rfl, _, _, hncap, hcm, _, _⟩
  · subst h0
    obtain rfl : i = 0 := by omega
    clear hr hx hne hc ha hpb
    go_enter Tryd.func53, Tryd.ntmps53
    go_wp2_with fail
    refine H.out.mono ?_
    rintro e w1 ⟨v1, rfl, h1⟩
    have HP := Aside0.mk h1
    clear h1
    go_wp2
    go_ret
    exact ⟨v1, rfl, HP.out⟩
  · have q0 : (0 : Int) ≤ (i : Int) := by omega
    have q1 : (i : Int) ≤ (cap : Int) := by omega
    have q2 : (i : Int) ≤ (n : Int) := by omega
    have hc63 : cap ≤ 9223372036854775807 := by unfold maxLen at hcm; omega
    clear hr hx hne hc ha hpb hcm
    by_cases hci : cap = i
    · subst hci
      go_enter Tryd.func53, Tryd.ntmps53
      go_wp2_with fail
      refine H.out.mono ?_
      rintro e w1 ⟨v1, rfl, h1⟩
      have HP := Aside0.mk h1
      clear h1
      go_wp2
      go_ret
      exact ⟨v1, rfl, HP.out⟩
    · go_enter Tryd.func53, Tryd.ntmps53
      go_wp2_with fail
      refine H.out.mono ?_
      rintro e w1 ⟨v1, rfl, h1⟩
      have HP := Aside0.mk h1
      clear h1
      go_wp2
      go_ret
      exact ⟨v1, rfl, HP.out⟩

end Go.Proofs.YtblmbbllfiigmaaDoor
