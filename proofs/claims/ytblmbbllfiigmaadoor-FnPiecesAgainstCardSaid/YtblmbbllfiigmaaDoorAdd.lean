/-
  add, walked: a fragment that is there already; a fragment that is new and swallows none.
-/
import Derived.Test.YtblmbbllfiigmaaDoorAdv
namespace Go.Proofs.YtblmbbllfiigmaaDoor
open Go.RowKit Go.Proofs.YtblmbbllfiigmaaDoorW.PrintWords Go.Proofs.YtblmbbllfiigmaaDoorW.PrintLast Go.Proofs.YtblmbbllfiigmaaDoorW.PrintMore

/-- The data as add keeps it. -/
def dataV (A : Option Addr) (len c : Nat) : Value := if len = 0 then .slice none 0 0 else .slice A len c
theorem dataV_at {w : World} {A : Option Addr} {c : Nat} {l : List Int} (h : DatAt w (.slice A l.length c) l) : DatAt w (dataV A l.length c) l := by
  unfold dataV
  split
  · rename_i h0
    exact ⟨none, 0, by rw [h0], by omega, fun hp => by omega⟩
  · exact h

/-- What lies ahead of the search: the three boxes. -/
structure AddPre (w : World) (F : Nat) (off : Int) (dv : Value) (W : World) : Prop where
  b1 : W.heap[w.heap.size]? = some (.cells [.pointer (some ⟨F, 0, none⟩)].toArray 97)
  b2 : W.heap[w.heap.size + 1]? = some (.cells [.int .u32 off].toArray 94)
  b3 : W.heap[w.heap.size + 2]? = some (.cells [.int .u32 off, dv].toArray 107)
  bel : Below w.heap.size w W

theorem addPre_mk (w : World) (F : Nat) (off : Int) (dv : Value) : AddPre w F off dv (((w.alloc (.cells #[.pointer (some ⟨F, 0, none⟩)] 97)).alloc (.cells #[.int .u32 off] 94)).alloc (.cells #[.int .u32 off, dv] 107)) := by
  have e1 : (w.alloc (.cells #[.pointer (some ⟨F, 0, none⟩)] 97)).heap.size = w.heap.size + 1 := by simp
  have e2 : ((w.alloc (.cells #[.pointer (some ⟨F, 0, none⟩)] 97)).alloc (.cells #[.int .u32 off] 94)).heap.size = w.heap.size + 2 := by simp
  refine ⟨blk_alloc (blk_alloc (blk_new w _) _) _, ?_, ?_, below_alloc (below_alloc (below_alloc (Below.refl _ w) _) _) _⟩
  · have := blk_alloc (blk_new (w.alloc (.cells #[.pointer (some ⟨F, 0, none⟩)] 97)) (.cells #[.int .u32 off] 94)) (.cells #[.int .u32 off, dv] 107)
    rwa [e1] at this
  · have := blk_new ((w.alloc (.cells #[.pointer (some ⟨F, 0, none⟩)] 97)).alloc (.cells #[.int .u32 off] 94)) (.cells #[.int .u32 off, dv] 107)
    rwa [e2] at this

set_option maxRecDepth 100000 in
set_option maxHeartbeats 1000000 in
theorem add_old (F : Nat) (off : Int) (A : Option Addr) (c : Nat) (l : List Int) (avail : Int) (cov : Value) (rest : List Value) (v : Value) (base : Nat) (ps : List (Int × List Int)) (w : World) (hr : RowAt w base v ps) (hn : ps.length ≤ 1000000) (hsm : Small ps)
    (hs : ∀ a b, a ≤ b → b < ps.length → offAt ps a ≤ offAt ps b) (hF : w.heap[F]? = some (.cells (v :: cov :: rest).toArray 101)) (h0 : 0 ≤ off) (h1 : off + (l.length : Int) < 4294967296) (hc : coversB ps (idxOf ps off) off l.length = true) :
    Calls Tryd.prog 41 #[.pointer (some ⟨F, 0, none⟩), .int .u32 off, .slice A l.length c, .int .i64 avail] w fun e w' => e = .returned (.tuple #[.int .i64 0, .int .i64 0, .nilIface]) ∧ Below w.heap.size w w' := by
  obtain ⟨AV, cV, rfl⟩ := hr.slice
  have hix : idxOf ps off ≤ ps.length := by unfold idxOf; exact Nat.le_trans List.countP_le_length (by simp)
  have k0 : w.cell? ⟨F, 0, none⟩ = some (.slice AV ps.length cV) := cellB hF 0
  have HR := Aside0.mk hr
  have HF := Aside0.mk hF
  have HS := Aside0.mk hs
  have HSM := Aside0.mk hsm
  have HC := Aside0.mk hc
  have HN := Aside0.mk hn
  have HIX := Aside0.mk hix
  have hFl : F < w.heap.size := ltB hF
  generalize hlen : l.length = len at *
  have HL := Aside0.mk hlen
  clear hr hF hs hsm hc hn hix hlen
  by_cases hz : len = 0
  · have hzi : (len : Int) = 0 := by omega
    go_enter Tryd.func41, Tryd.ntmps41
    go_upto_region 4 with fail
    have HP := Aside0.mk (addPre_mk w F off (.slice none 0 0))
    generalize ((w.alloc (.cells #[.pointer (some ⟨F, 0, none⟩)] 97)).alloc (.cells #[.int .u32 off] 94)).alloc (.cells #[.int .u32 off, .slice none 0 0] 107) = W at *
    have hFW := (HP.out.bel.block F hFl).trans HF.out
    have HFW := Aside0.mk hFW
    have kF : W.cell? ⟨F, 0, none⟩ = some (.slice AV ps.length cV) := cellB hFW 0
    have kB1 : W.cell? ⟨w.heap.size, 0, none⟩ = some (.pointer (some ⟨F, 0, none⟩)) := cellB HP.out.b1 0
    clear k0 hFW
    go_wp2_with fail
    refine (search_any F w.heap.size (w.heap.size + 1) off cov rest _ base ps W (HR.out.below HP.out.bel) HFW.out HP.out.b1 HP.out.b2 HN.out HS.out).mono ?_
    rintro e w2 ⟨rfl, hb⟩
    have HB2 := Aside0.mk (below_then HP.out.bel HP.out.bel.size hb)
    have hF2 := (hb.block F (ltB HFW.out)).trans HFW.out
    have HF2 := Aside0.mk hF2
    have hb1 := (hb.block _ (ltB HP.out.b1)).trans HP.out.b1
    have hb3 := (hb.block _ (ltB HP.out.b3)).trans HP.out.b3
    have kB1 : w2.cell? ⟨w.heap.size, 0, none⟩ = some (.pointer (some ⟨F, 0, none⟩)) := cellB hb1 0
    have kB3 : w2.cell? ⟨w.heap.size + 2, 0, none⟩ = some (.int .u32 off) := cellB hb3 0
    have kB4 : w2.cell? ⟨w.heap.size + 2, 1, none⟩ = some (.slice none 0 0) := cellB hb3 1
    have HR2 : Aside0 (RowAt w2 base (.slice AV ps.length cV) ps) := ⟨HR.out.below HB2.out⟩
    clear hb hF2 hb1 hb3 kF HFW HP
    generalize hid : idxOf ps off = idx at *
    go_wp2_with fail
    refine (covers_any F off none 0 0 cov rest _ base ps idx w2 HR2.out HIX.out HN.out HSM.out HF2.out h0 (by omega)).mono ?_
    rintro e w3 ⟨rfl, hb⟩
    have hcc : coversB ps idx off ((0 : Nat) : Int) = true := by have := HC.out; rw [hz] at this; exact this
    rw [hcc]
    have HB3 := Aside0.mk (below_then HB2.out HB2.out.size hb)
    clear hb hcc hid
    go_wp2
    go_ret3
    exact ⟨rfl, HB3.out⟩
  · have hzi : ¬ (len : Int) = 0 := by omega
    go_enter Tryd.func41, Tryd.ntmps41
    go_upto_region 4 with fail
    have HP := Aside0.mk (addPre_mk w F off (.slice A len c))
    generalize ((w.alloc (.cells #[.pointer (some ⟨F, 0, none⟩)] 97)).alloc (.cells #[.int .u32 off] 94)).alloc (.cells #[.int .u32 off, .slice A len c] 107) = W at *
    have hFW := (HP.out.bel.block F hFl).trans HF.out
    have HFW := Aside0.mk hFW
    have kF : W.cell? ⟨F, 0, none⟩ = some (.slice AV ps.length cV) := cellB hFW 0
    have kB1 : W.cell? ⟨w.heap.size, 0, none⟩ = some (.pointer (some ⟨F, 0, none⟩)) := cellB HP.out.b1 0
    clear k0 hFW
    go_wp2_with fail
    refine (search_any F w.heap.size (w.heap.size + 1) off cov rest _ base ps W (HR.out.below HP.out.bel) HFW.out HP.out.b1 HP.out.b2 HN.out HS.out).mono ?_
    rintro e w2 ⟨rfl, hb⟩
    have HB2 := Aside0.mk (below_then HP.out.bel HP.out.bel.size hb)
    have hF2 := (hb.block F (ltB HFW.out)).trans HFW.out
    have HF2 := Aside0.mk hF2
    have hb1 := (hb.block _ (ltB HP.out.b1)).trans HP.out.b1
    have hb3 := (hb.block _ (ltB HP.out.b3)).trans HP.out.b3
    have kB1 : w2.cell? ⟨w.heap.size, 0, none⟩ = some (.pointer (some ⟨F, 0, none⟩)) := cellB hb1 0
    have kB3 : w2.cell? ⟨w.heap.size + 2, 0, none⟩ = some (.int .u32 off) := cellB hb3 0
    have kB4 : w2.cell? ⟨w.heap.size + 2, 1, none⟩ = some (.slice A len c) := cellB hb3 1
    have HR2 : Aside0 (RowAt w2 base (.slice AV ps.length cV) ps) := ⟨HR.out.below HB2.out⟩
    clear hb hF2 hb1 hb3 kF HFW HP
    generalize hid : idxOf ps off = idx at *
    go_wp2_with fail
    refine (covers_any F off A len c cov rest _ base ps idx w2 HR2.out HIX.out HN.out HSM.out HF2.out h0 h1).mono ?_
    rintro e w3 ⟨rfl, hb⟩
    have hcc : coversB ps idx off (len : Int) = true := HC.out
    rw [hcc]
    have HB3 := Aside0.mk (below_then HB2.out HB2.out.size hb)
    clear hb hcc hid
    go_wp2
    go_ret3
    exact ⟨rfl, HB3.out⟩

end Go.Proofs.YtblmbbllfiigmaaDoor
