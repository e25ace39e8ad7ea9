/-
  The record's header, read.
-/
import Derived.Test.YtblmbbllfiigmaaDoorHead
import Derived.Lib.QuietBelow
namespace Go.Proofs.YtblmbbllfiigmaaDoor
open Go.RowKit Go.Proofs.YtblmbbllfiigmaaDoorW.PrintWords Go.Proofs.YtblmbbllfiigmaaDoorW.PrintLast Go.Proofs.YtblmbbllfiigmaaDoorW.PrintMore

/-- What the two versions that the program names hold. -/
structure GL (w : World) : Prop where
  a0 : w.cell? ⟨4, 0, none⟩ = some (.int .u8 254)
  a1 : w.cell? ⟨4, 1, none⟩ = some (.int .u8 255)
  b0 : w.cell? ⟨5, 0, none⟩ = some (.int .u8 254)
  b1 : w.cell? ⟨5, 1, none⟩ = some (.int .u8 253)
theorem GL.move {w w1 : World} (h : GL w) (h4 : w1.heap[4]? = w.heap[4]?) (h5 : w1.heap[5]? = w.heap[5]?) : GL w1 :=
  ⟨(World.cell?_of_block (a := ⟨4, 0, none⟩) h4).trans h.a0, (World.cell?_of_block (a := ⟨4, 1, none⟩) h4).trans h.a1, (World.cell?_of_block (a := ⟨5, 0, none⟩) h5).trans h.b0, (World.cell?_of_block (a := ⟨5, 1, none⟩) h5).trans h.b1⟩
theorem GL.lt {w : World} (h : GL w) : 5 < w.heap.size := World.block_lt_of_cell? w _ h.b0
theorem GL.below {w w1 : World} {B : Nat} (h : GL w) (hb : Below B w w1) (hB : 5 < B) : GL w1 := h.move (hb.block 4 (by omega)) (hb.block 5 hB)
theorem GL.grown {w w1 : World} {g : Nat} (h : GL w) (hb : w.grownBy w1 (some g)) (hg : 5 < g) : GL w1 := by
  have := h.lt
  exact h.move (hb.block 4 (by omega) (by simp; omega)) (hb.block 5 this (by simp; omega))

set_option maxRecDepth 100000 in
set_option maxHeartbeats 1000000 in
theorem veq_any (a b c d : Int) (r : Bool) (hr : (a == c && b == d) = r) (w : World) : Calls Tryd.prog 48 #[.agg #[.int .u8 a, .int .u8 b], .agg #[.int .u8 c, .int .u8 d]] w fun e w' => e = .returned (.bool r) ∧ Below w.heap.size w w' := by
  have HR := Aside0.mk hr
  clear hr
  go_enter Tryd.func48, Tryd.ntmps48
  go_wp2
  all_goals go_ret
  · rename_i h
    subst h
    refine ⟨?_, below_alloc (below_alloc (Below.refl _ w) _) _⟩
    rw [← HR.out]
    simp
  · rename_i h
    refine ⟨?_, below_alloc (below_alloc (Below.refl _ w) _) _⟩
    rw [← HR.out]
    simp [h]

theorem mk8 (w : World) : (Instr.makeSlice 59 (.int .i64 8) (.int .i64 8)).run Tryd.prog w = .ok (.slice (some ⟨w.heap.size, 0, none⟩) 8 8) (w.alloc (.cells #[.int .u8 0, .int .u8 0, .int .u8 0, .int .u8 0, .int .u8 0, .int .u8 0, .int .u8 0, .int .u8 0] 5)) := by kernel_rfl

set_option maxRecDepth 100000 in
set_option maxHeartbeats 1000000 in
theorem rl_any (g b o n c : Nat) (l : List Int) (z0 z1 z2 z3 z4 z5 z6 : Value) (w : World) (hg : w.heap[g]? = some (.cells [z0, z1, z2, z3, z4, z5, z6].toArray 91)) (hr : BytAt w b o l) (hbg : b ≠ g) (hg5 : 5 < g) (hgl : GL w)
    (hn : n = l.length) (hc : n ≤ c) (hw : Byt l) (h3 : 13 ≤ n) (e0 : l.getD 0 0 = 22) (e1 : l.getD 1 0 = 254) (e2 : l.getD 2 0 = 253) :
    Calls Tryd.prog 39 #[.pointer (some ⟨g, 0, none⟩), .slice (some ⟨b, o, none⟩) n c] w fun e w' => e = .returned .nilIface ∧ w.grownBy w' (some g) ∧
      ∃ s : Int, w'.heap[g]? = some (.cells [.int .u8 22, z1, .int .u8 254, .int .u8 253, .int .u16 (Lib.beZ ((l.drop 3).take 2)), .int .u64 s, z6].toArray 91) := by
  have hx0 : w.cell? ⟨b, o, none⟩ = some (.int .u8 22) := by rw [← e0]; exact hr 0 (by omega)
  have hx1 : w.cell? ⟨b, o + 1, none⟩ = some (.int .u8 254) := by rw [← e1]; exact hr 1 (by omega)
  have hx2 : w.cell? ⟨b, o + 2, none⟩ = some (.int .u8 253) := by rw [← e2]; exact hr 2 (by omega)
  have hf := fun j => frozB hg j
  have hg0 : w.cell? ⟨g, 0, none⟩ = some z0 := cellB hg 0
  have hg2 : w.cell? ⟨g, 2, none⟩ = some z2 := cellB hg 2
  have hg3 : w.cell? ⟨g, 3, none⟩ = some z3 := cellB hg 3
  have HR := Aside0.mk hr
  have HW := Aside0.mk hw
  have HG := Aside0.mk hg
  have HN := Aside0.mk hn
  have HBG := Aside0.mk hbg
  have HGL := Aside0.mk hgl
  have HG5 := Aside0.mk hg5
  have p13 : (13 : Int) ≤ (n : Int) := by omega
  have hgb : ¬ g = b := fun e => HBG.out e.symm
  have hbg' : ¬ b = g := HBG.out
  have q0 : (0 : Int) < (n : Int) := by omega
  have q1 : (1 : Int) < (n : Int) := by omega
  have q2 : (2 : Int) < (n : Int) := by omega
  have n3 : ¬ c = 3 := by omega
  have n5 : ¬ c = 5 := by omega
  clear hr hw hg hn hbg hgl hg5 e0 e1 e2
  generalize h1 : Lib.beZ ((l.drop 3).take 2) = a4 at *
  have H1 := Aside0.mk h1
  clear h1
  go_enter Tryd.func39, Tryd.ntmps39
  go_wp2_with fail
  have HG3 := Aside0.mk (blk_setL (blk_setL (blk_setL HG.out 0 (.int .u8 22)) 2 (.int .u8 254)) 3 (.int .u8 253))
  have HGr3 := Aside0.mk (World.grownBy.trans (grB w g 0 (.int .u8 22)) (World.grownBy.trans (grB (w.setCell ⟨g, 0, none⟩ (.int .u8 22)) g 2 (.int .u8 254)) (grB ((w.setCell ⟨g, 0, none⟩ (.int .u8 22)).setCell ⟨g, 2, none⟩ (.int .u8 254)) g 3 (.int .u8 253))))
  clear hx0 hx1 hx2 hf hg0 hg2 hg3
  generalize ((w.setCell ⟨g, 0, none⟩ (.int .u8 22)).setCell ⟨g, 2, none⟩ (.int .u8 254)).setCell ⟨g, 3, none⟩ (.int .u8 253) = w3 at *
  have hR3d : Aside0 (BytAt w3.drew b o l) := ⟨HR.out.move (HGr3.out.block b (HR.out.blk (by have := HN.out; omega)) (fun e => HBG.out (by injection e)))⟩
  have p4 : (3 : Int) ≤ (n : Int) := by omega
  go_region_with (go_at_call 46; refine (u16_any b (o + 3) (n - 3) (c - 3) (l.drop 3) _ (hR3d.out.drop 3) (by rw [List.length_drop, HN.out]) (HW.out.drop 3) (by rw [List.length_drop]; have := HN.out; omega)).mono ?_; rintro e w4 ⟨rfl, hb⟩; have HB4 := Aside0.mk hb; have hg2 : w4.cell? ⟨g, 4, none⟩ = some z4 := (pw_cell_below hb (cellB HG3.out 4)); have hf2 : w4.frozen? ⟨g, 4, none⟩ = false := frozB ((hb.block g (ltB HG3.out)).trans HG3.out) 4; clear hb)
  rw [H1.out]
  have HG5b := Aside0.mk (blk_setL ((HB4.out.block g (ltB HG3.out)).trans HG3.out) 4 (.int .u16 a4))
  have HGr5 : Aside0 (w.grownBy (w4.setCell ⟨g, 4, none⟩ (.int .u16 a4)) (some g)) := ⟨World.grownBy.trans HGr3.out (World.grownBy.trans (grDrew w3 (some g)) (World.grownBy.trans (grown_of_below HB4.out _) (grB w4 g 4 (.int .u16 a4))))⟩
  clear hg2 hf2 HB4 hR3d HG3 HGr3
  generalize w4.setCell ⟨g, 4, none⟩ (.int .u16 a4) = w5 at *
  have m8 := mk8
  go_wp2_with fail
  have p11 : (11 : Int) ≤ (c : Int) := by omega
  have p5 : (5 : Int) ≤ (n : Int) := by omega
  obtain ⟨W, hW⟩ : ∃ W, W = w5.alloc (.cells #[.int .u8 0, .int .u8 0, .int .u8 0, .int .u8 0, .int .u8 0, .int .u8 0, .int .u8 0, .int .u8 0] 5) := ⟨_, rfl⟩
  have HN5 : Aside0 (W.drew.heap[w5.heap.size]? = some (.cells [Value.int .u8 0, .int .u8 0, .int .u8 0, .int .u8 0, .int .u8 0, .int .u8 0, .int .u8 0, .int .u8 0].toArray 5)) := ⟨by rw [hW]; exact blk_drew (blk_new w5 _)⟩
  have HBW : Aside0 (Below w5.heap.size w5 W.drew) := ⟨by rw [hW]; exact below_drew (below_alloc (Below.refl _ w5) _)⟩
  rw [← hW]
  clear hW
  obtain ⟨cs, hcs⟩ : ∃ cs : List Value, cs = nums .u8 ((l.drop 5).take 6) := ⟨_, rfl⟩
  have hcl : cs.length = 6 := by rw [hcs, nums_length, List.length_take, List.length_drop]; have := HN.out; omega
  have HSrc : Aside0 (∀ j v, cs[j]? = some v → W.drew.cell? ((⟨b, o + 5, none⟩ : Addr).add j) = some v) := ⟨fun j v hj => by
    have hj6 : j < 6 := by have := (List.getElem?_eq_some_iff.1 hj).1; omega
    have hR5 : BytAt w5 b o l := HR.out.move (HGr5.out.block b (HR.out.blk (by have := HN.out; omega)) (fun e => HBG.out (by injection e)))
    have hh := (hR5.below HBW.out).drop 5 j (by rw [List.length_drop]; have := HN.out; omega)
    rw [add_off, hh]
    rw [hcs, nums, List.getElem?_map, List.getElem?_take, if_pos hj6] at hj
    obtain ⟨x, hx, rfl⟩ := Option.map_eq_some_iff.1 hj
    rw [List.getD_eq_getElem?_getD, hx]; rfl⟩
  have HO1 : Aside0 (∀ v ∈ cs, v.oneCell' = true) := ⟨by
    intro v hv
    rw [hcs] at hv
    obtain ⟨x, _, rfl⟩ := List.mem_map.1 hv
    rfl⟩
  have HL : Aside0 (cs.length = 6) := ⟨hcl⟩
  have HCS := Aside0.mk hcs
  clear hcl hcs
  go_still_tail 4, (by kernel_rfl)
  change wpList _ _ _ _ _ W.drew
  generalize W.drew = w6 at *
  obtain ⟨Z8, hZ8⟩ : ∃ Z8 : List Value, Z8 = [Value.int .u8 0, .int .u8 0, .int .u8 0, .int .u8 0, .int .u8 0, .int .u8 0, .int .u8 0, .int .u8 0] := ⟨_, rfl⟩
  have HN6 : Aside0 (w6.heap[w5.heap.size]? = some (.cells Z8.toArray 5)) := ⟨by rw [hZ8]; exact HN5.out⟩
  have HZ := Aside0.mk hZ8
  clear hZ8 HN5
  refine wpList_copy_splice rfl (.tmp 65) (.tmp 67) 59 59 rfl 5 Tryd.underlying59 size5 (some ⟨w5.heap.size, 2, none⟩) (some ⟨b, o + 5, none⟩) 6 6 6 (c - 5) rfl rfl w5.heap.size 2 Z8 5 HN6.out cs (by rw [HL.out]; rfl) (fun _ => ⟨rfl, _, rfl, HSrc.out⟩) (by rw [HL.out, HZ.out]; decide) HO1.out w5.heap.size w5 HBW.out (Nat.le_refl _) ?_
  intro w7 hg7 hb7
  have HG7 := Aside0.mk hg7.out
  have HB7 := Aside0.mk hb7
  have hgg := (hb7.block g (ltB HG5b.out)).trans HG5b.out
  have HG8 := Aside0.mk hgg
  have hf := fun j => frozB hgg j
  have hg5' : w7.cell? ⟨g, 5, none⟩ = some z5 := cellB hgg 5
  have HGr7 : Aside0 (w.grownBy w7 (some g)) := ⟨World.grownBy.trans HGr5.out (grown_of_below hb7 _)⟩
  clear hg7 hb7 hgg HSrc HN6 HBW HB7
  rw [HL.out]
  go_wp2_with fail
  have hzs : BytAt w7 w5.heap.size 0 (0 :: 0 :: (l.drop 5).take 6) := fun i hi => by
    rw [Nat.zero_add, cellB HG7.out i, splice, HZ.out, HL.out, HCS.out]
    have hsp : List.take 2 [Value.int .u8 0, .int .u8 0, .int .u8 0, .int .u8 0, .int .u8 0, .int .u8 0, .int .u8 0, .int .u8 0] ++ (nums .u8 ((l.drop 5).take 6) ++ List.drop (2 + 6) [Value.int .u8 0, .int .u8 0, .int .u8 0, .int .u8 0, .int .u8 0, .int .u8 0, .int .u8 0, .int .u8 0]) = nums .u8 (0 :: 0 :: (l.drop 5).take 6) := by simp [nums]
    rw [hsp, nums, List.getElem?_map, List.getElem?_eq_getElem hi, List.getD_eq_getElem?_getD, List.getElem?_eq_getElem hi]; rfl
  have hzl : (0 :: 0 :: (l.drop 5).take 6).length = 8 := by
    have := HN.out
    rw [List.length_cons, List.length_cons, List.length_take, List.length_drop]; omega
  have hzw : Byt (0 :: 0 :: (l.drop 5).take 6) := fun z hz => by
    rcases List.mem_cons.1 hz with rfl | hz
    · rfl
    rcases List.mem_cons.1 hz with rfl | hz
    · rfl
    exact (HW.out.drop 5).take 6 z hz
  refine (Any.binary_BE_Uint64_z Tryd.be64 ⟨w5.heap.size, 0, none⟩ 8 8 (0 :: 0 :: (l.drop 5).take 6) w7 (Nat.le_refl _) (by rw [hzl]; exact Nat.le_refl _) (fun i hi => by rw [add_off]; exact hzs i hi) hzw).mono ?_
  clear hzs hzl hzw HO1 HCS HL HZ HG7
  rintro e w8 ⟨rfl, hb⟩
  generalize Lib.beZ (List.take 8 (0 :: 0 :: (l.drop 5).take 6)) = sq at *
  have hgg := (hb.block g (ltB HG8.out)).trans HG8.out
  have HG9 := Aside0.mk hgg
  have hf := fun j => frozB hgg j
  have hg5' : w8.cell? ⟨g, 5, none⟩ = some z5 := cellB hgg 5
  have HGr9 : Aside0 (w.grownBy w8 (some g)) := ⟨World.grownBy.trans HGr7.out (grown_of_below hb _)⟩
  clear hgg hb HG8 HGr7
  go_wp2_with fail
  have HG10 := Aside0.mk (blk_setL HG9.out 5 (.int .u64 sq))
  have HGr10 := Aside0.mk (World.grownBy.trans HGr9.out (grB w8 g 5 (.int .u64 sq)))
  clear hf hg5' HG9 HGr9
  generalize w8.setCell ⟨g, 5, none⟩ (.int .u64 sq) = w9 at *
  have hGLd : GL w9 := HGL.out.grown HGr10.out HG5.out
  have k40 := cell_regrown hGLd.a0
  have k41 := cell_regrown hGLd.a1
  have k50 := cell_regrown hGLd.b0
  have k51 := cell_regrown hGLd.b1
  have k2 := cell_regrown (show w9.cell? ⟨g, 2, none⟩ = some (.int .u8 254) from cellB HG10.out 2)
  have k3 := cell_regrown (show w9.cell? ⟨g, 3, none⟩ = some (.int .u8 253) from cellB HG10.out 3)
  have cA : ∀ d os, Calls Tryd.prog 48 #[.agg #[.int .u8 254, .int .u8 253], .agg #[.int .u8 254, .int .u8 255]] (Sort.grow (redrawn w9 d) os) fun e w'' => e = .returned (.bool false) ∧ ∃ p : Regrown, w'' = Sort.grow (redrawn w9 p.d) p.os := fun d os => Calls.regrown_of (veq_any 254 253 254 255 false rfl _)
  have cB : ∀ d os, Calls Tryd.prog 48 #[.agg #[.int .u8 254, .int .u8 253], .agg #[.int .u8 254, .int .u8 253]] (Sort.grow (redrawn w9 d) os) fun e w'' => e = .returned (.bool true) ∧ ∃ p : Regrown, w'' = Sort.grow (redrawn w9 p.d) p.os := fun d os => Calls.regrown_of (veq_any 254 253 254 253 true rfl _)
  refine wp_region_quiet_below (by kernel_rfl) (by kernel_rfl) ?_
  iterate 8 (quiet_step (exact cA _ _))
  repeat (quiet_step (exact cB _ _))
  refine wpQuiet_nil ?_
  intro _ hw'
  obtain ⟨⟨dq, osq⟩, hw''⟩ := hw'
  subst hw''
  have HB11 := Aside0.mk (below_regrown w9 dq osq)
  clear k40 k41 k50 k51 k2 k3 cA cB hGLd
  generalize Sort.grow (redrawn w9 dq) osq = w10 at *
  go_wp2
  go_ret
  exact ⟨rfl, World.grownBy.trans HGr10.out (grown_of_below HB11.out _), sq, (HB11.out.block g (ltB HG10.out)).trans HG10.out⟩

end Go.Proofs.YtblmbbllfiigmaaDoor
