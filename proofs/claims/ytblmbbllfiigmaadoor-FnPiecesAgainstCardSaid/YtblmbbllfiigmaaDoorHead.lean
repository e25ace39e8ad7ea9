/-
  The two headers' Unmarshal, walked.
-/
import Derived.Test.YtblmbbllfiigmaaDoorBase
import Derived.Deep.RegionWith
namespace Go.Proofs.YtblmbbllfiigmaaDoor
open Go.RowKit Go.Proofs.YtblmbbllfiigmaaDoorW.PrintWords Go.Proofs.YtblmbbllfiigmaaDoorW.PrintLast Go.Proofs.YtblmbbllfiigmaaDoorW.PrintMore

theorem blk_setL {w : World} {g : Nat} {e : TypeId} {l : List Value} (h : w.heap[g]? = some (.cells l.toArray e)) (j : Nat) (v : Value) : (w.setCell ⟨g, j, none⟩ v).heap[g]? = some (.cells (l.set j v).toArray e) := by
  have := blk_set h j v
  rw [this]
  simp

set_option maxRecDepth 100000 in
set_option maxHeartbeats 1000000 in
theorem hs_any (g b o n c : Nat) (l : List Int) (z0 z1 z2 z3 z4 : Value) (w : World) (hg : w.heap[g]? = some (.cells [z0, z1, z2, z3, z4].toArray 96)) (hr : BytAt w b o l) (hbg : b ≠ g) (hn : n = l.length) (hc : n ≤ c) (hw : Byt l) (h3 : 12 ≤ n) :
    Calls Tryd.prog 40 #[.pointer (some ⟨g, 0, none⟩), .slice (some ⟨b, o, none⟩) n c] w fun e w' => e = .returned .nilIface ∧ w.grownBy w' (some g) ∧
      w'.heap[g]? = some (.cells [.int .u8 (l.getD 0 0), .int .u32 (Lib.beZ ((l.drop 1).take 3)), .int .u16 (Lib.beZ ((l.drop 4).take 2)), .int .u32 (Lib.beZ ((l.drop 6).take 3)), .int .u32 (Lib.beZ ((l.drop 9).take 3))].toArray 96) := by
  have hx0 : w.cell? ⟨b, o, none⟩ = some (.int .u8 (l.getD 0 0)) := hr 0 (by omega)
  have hf := fun j => frozB hg j
  have hg0 : w.cell? ⟨g, 0, none⟩ = some z0 := cellB hg 0
  have HR := Aside0.mk hr
  have HW := Aside0.mk hw
  have HG := Aside0.mk hg
  have HN := Aside0.mk hn
  have HBG := Aside0.mk hbg
  have p3 : (12 : Int) ≤ (n : Int) := by omega
  have q0 : (0 : Int) < (n : Int) := by omega
  have n1 : ¬ c = 1 := by omega
  have n4 : ¬ c = 4 := by omega
  have n6 : ¬ c = 6 := by omega
  have n9 : ¬ c = 9 := by omega
  clear hr hw hg hn hbg
  generalize h0 : l.getD 0 0 = a0 at *
  generalize h1 : Lib.beZ ((l.drop 1).take 3) = a1 at *
  generalize h2 : Lib.beZ ((l.drop 4).take 2) = a2 at *
  generalize h3' : Lib.beZ ((l.drop 6).take 3) = a3 at *
  generalize h4 : Lib.beZ ((l.drop 9).take 3) = a4 at *
  have H0 := Aside0.mk h0
  have H1 := Aside0.mk h1
  have H2 := Aside0.mk h2
  have H3 := Aside0.mk h3'
  have H4 := Aside0.mk h4
  clear h0 h1 h2 h3' h4
  go_enter Tryd.func40, Tryd.ntmps40
  go_wp2_with fail
  have HG1 := Aside0.mk (blk_setL HG.out 0 (.int .u8 a0))
  have HR1 : Aside0 (BytAt (w.setCell ⟨g, 0, none⟩ (.int .u8 a0)) b o l) := ⟨HR.out.move (Below.heap_setCell w ⟨g, 0, none⟩ (.int .u8 a0) b HBG.out)⟩
  have HGr1 := Aside0.mk (grB w g 0 (.int .u8 a0))
  clear hx0 hf hg0
  generalize w.setCell ⟨g, 0, none⟩ (.int .u8 a0) = w1 at *
  refine (u24_any b (o + 1) (n - 1) (c - 1) (l.drop 1) w1 (HR1.out.drop 1) (by rw [List.length_drop, HN.out]) (HW.out.drop 1) (by rw [List.length_drop]; have := HN.out; omega)).mono ?_
  rintro e w2 ⟨rfl, hb⟩
  rw [H1.out]
  have hg1 : w2.heap[g]? = some (.cells [.int .u8 a0, z1, z2, z3, z4].toArray 96) := (hb.block g (ltB HG1.out)).trans HG1.out
  have HR2 : Aside0 (BytAt w2 b o l) := ⟨HR1.out.below hb⟩
  have HGr2 : Aside0 (w.grownBy w2 (some g)) := ⟨World.grownBy.trans HGr1.out (grown_of_below hb _)⟩
  have HG2 := Aside0.mk hg1
  have hf := fun j => frozB hg1 j
  have hg01 : w2.cell? ⟨g, 1, none⟩ = some z1 := cellB hg1 1
  clear hb hg1 HR1 HG1 HGr1
  go_wp2_with fail
  have HG3 := Aside0.mk (blk_setL HG2.out 1 (.int .u32 a1))
  have HR3 : Aside0 (BytAt (w2.setCell ⟨g, 1, none⟩ (.int .u32 a1)) b o l) := ⟨HR2.out.move (Below.heap_setCell w2 ⟨g, 1, none⟩ (.int .u32 a1) b HBG.out)⟩
  have HGr3 := Aside0.mk (World.grownBy.trans HGr2.out (grB w2 g 1 (.int .u32 a1)))
  clear hf hg01 HG2 HR2 HGr2
  generalize w2.setCell ⟨g, 1, none⟩ (.int .u32 a1) = w3 at *
  have hR3d : Aside0 (BytAt w3.drew b o l) := ⟨fun i hi => HR3.out i hi⟩
  have p4 : (4 : Int) ≤ (n : Int) := by omega
  go_region_with (go_at_call 46; refine (u16_any b (o + 4) (n - 4) (c - 4) (l.drop 4) _ (hR3d.out.drop 4) (by rw [List.length_drop, HN.out]) (HW.out.drop 4) (by rw [List.length_drop]; have := HN.out; omega)).mono ?_; rintro e w4 ⟨rfl, hb⟩; have HB4 := Aside0.mk hb; have hg2 : w4.cell? ⟨g, 2, none⟩ = some z2 := (pw_cell_below hb (cellB HG3.out 2)); have hf2 : w4.frozen? ⟨g, 2, none⟩ = false := frozB ((hb.block g (ltB HG3.out)).trans HG3.out) 2; clear hb)
  rw [H2.out]
  have HG5 : Aside0 ((w4.setCell ⟨g, 2, none⟩ (.int .u16 a2)).heap[g]? = some (.cells [.int .u8 a0, .int .u32 a1, .int .u16 a2, z3, z4].toArray 96)) := ⟨blk_setL ((HB4.out.block g (ltB HG3.out)).trans HG3.out) 2 (.int .u16 a2)⟩
  have HR5 : Aside0 (BytAt (w4.setCell ⟨g, 2, none⟩ (.int .u16 a2)) b o l) := ⟨(hR3d.out.below HB4.out).move (Below.heap_setCell w4 ⟨g, 2, none⟩ (.int .u16 a2) b HBG.out)⟩
  have HGr5 : Aside0 (w.grownBy (w4.setCell ⟨g, 2, none⟩ (.int .u16 a2)) (some g)) := ⟨World.grownBy.trans HGr3.out (World.grownBy.trans (grDrew w3 (some g)) (World.grownBy.trans (grown_of_below HB4.out _) (grB w4 g 2 (.int .u16 a2))))⟩
  clear hg2 hf2 HB4 hR3d HG3 HR3 HGr3
  generalize w4.setCell ⟨g, 2, none⟩ (.int .u16 a2) = w5 at *
  go_wp2_with fail
  refine (u24_any b (o + 6) (n - 6) (c - 6) (l.drop 6) w5 (HR5.out.drop 6) (by rw [List.length_drop, HN.out]) (HW.out.drop 6) (by rw [List.length_drop]; have := HN.out; omega)).mono ?_
  rintro e w6 ⟨rfl, hb⟩
  rw [H3.out]
  have hg1 : w6.heap[g]? = some (.cells [.int .u8 a0, .int .u32 a1, .int .u16 a2, z3, z4].toArray 96) := (hb.block g (ltB HG5.out)).trans HG5.out
  have HR6 : Aside0 (BytAt w6 b o l) := ⟨HR5.out.below hb⟩
  have HGr6 : Aside0 (w.grownBy w6 (some g)) := ⟨World.grownBy.trans HGr5.out (grown_of_below hb _)⟩
  have HG6 := Aside0.mk hg1
  have hf := fun j => frozB hg1 j
  have hg03 : w6.cell? ⟨g, 3, none⟩ = some z3 := cellB hg1 3
  clear hb hg1 HR5 HG5 HGr5
  go_wp2_with fail
  have HG7 := Aside0.mk (blk_setL HG6.out 3 (.int .u32 a3))
  have HR7 : Aside0 (BytAt (w6.setCell ⟨g, 3, none⟩ (.int .u32 a3)) b o l) := ⟨HR6.out.move (Below.heap_setCell w6 ⟨g, 3, none⟩ (.int .u32 a3) b HBG.out)⟩
  have HGr7 := Aside0.mk (World.grownBy.trans HGr6.out (grB w6 g 3 (.int .u32 a3)))
  clear hf hg03 HG6 HR6 HGr6
  generalize w6.setCell ⟨g, 3, none⟩ (.int .u32 a3) = w7 at *
  refine (u24_any b (o + 9) (n - 9) (c - 9) (l.drop 9) w7 (HR7.out.drop 9) (by rw [List.length_drop, HN.out]) (HW.out.drop 9) (by rw [List.length_drop]; have := HN.out; omega)).mono ?_
  rintro e w8 ⟨rfl, hb⟩
  rw [H4.out]
  have hg1 : w8.heap[g]? = some (.cells [.int .u8 a0, .int .u32 a1, .int .u16 a2, .int .u32 a3, z4].toArray 96) := (hb.block g (ltB HG7.out)).trans HG7.out
  have HGr8 : Aside0 (w.grownBy w8 (some g)) := ⟨World.grownBy.trans HGr7.out (grown_of_below hb _)⟩
  have HG8 := Aside0.mk hg1
  have hf := fun j => frozB hg1 j
  have hg04 : w8.cell? ⟨g, 4, none⟩ = some z4 := cellB hg1 4
  clear hb hg1 HR7 HG7 HGr7
  go_wp2
  go_ret
  exact ⟨rfl, World.grownBy.trans HGr8.out (grB w8 g 4 _), blk_setL HG8.out 4 (.int .u32 a4)⟩

end Go.Proofs.YtblmbbllfiigmaaDoor
