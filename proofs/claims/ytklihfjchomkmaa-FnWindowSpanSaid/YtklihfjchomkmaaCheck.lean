/-
  The replay detector, walked: New, Check, and what Check hands back.
-/
import Derived.Test.YtklihfjchomkmaaAccept
namespace Go.Proofs.Ytklihfjchomkmaa
open Go.RowKit Go.Proofs.YtklihfjchomkmaaW.PrintWords

theorem DetAt.below {w w' : World} {D M B : Nat} {g most win : Int} {xs : List Int} (h : DetAt w D M B g most win xs) (hb : Below w.heap.size w w') : DetAt w' D M B g most win xs :=
  ⟨(hb.block D (ltB h.d)).trans h.d, h.mask.move (hb.block M (ltB h.mask.m)) (hb.block B (ltB h.mask.b)), h.wm, h.mx, h.g0, h.gm⟩

theorem cell_new (w : World) (v : Value) (t : TypeId) : (w.alloc (.cells #[v] t)).cell? ⟨w.heap.size, 0, none⟩ = some v := by
  rw [cellB (l := [v]) (heap_alloc_new w _)]; rfl

def CheckNo (w w' : World) (e : Ending) : Prop := e = .returned (.tuple #[.func (.func 46) #[] #[], .bool false]) ∧ Below w.heap.size w w'
def CheckYes (w w' : World) (D : Nat) (n : Int) (e : Ending) : Prop :=
  ∃ a b : Nat, e = .returned (.tuple #[.func (.func 47) #[] #[.pointer (some ⟨a, 0, none⟩), .pointer (some ⟨b, 0, none⟩)], .bool true]) ∧ Below w.heap.size w w' ∧
    w'.cell? ⟨a, 0, none⟩ = some (.pointer (some ⟨D, 0, none⟩)) ∧ w'.cell? ⟨b, 0, none⟩ = some (.int .u64 n)

theorem boxed {w : World} {D M B : Nat} {g most win n : Int} {xs : List Int} (hd : DetAt w D M B g most win xs) : DetAt ((w.alloc (.cells #[.pointer (some ⟨D, 0, none⟩)] 78)).alloc (.cells #[.int .u64 n] 26)) D M B g most win xs :=
  hd.below (below_alloc (below_alloc (Below.refl _ _) _) _)

set_option maxHeartbeats 400000 in
theorem check_no (D M B : Nat) (g most win n : Int) (xs : List Int) (w : World) (hd : DetAt w D M B g most win xs) (h0 : 0 ≤ n) (hf : freshD g most win xs n = false) :
    Calls Try.prog 43 #[.pointer (some ⟨D, 0, none⟩), .int .u64 n] w fun e w' => CheckNo w w' e := by
  have HF := Lib.hid hf
  have HD2 := Lib.hid (boxed (n := n) hd)
  clear hf hd
  go_enter Try.func43, Try.ntmps43
  go_wp2_with fail
  refine (check_any D M B g most win n xs _ HD2.out h0).mono ?_
  rintro e w1 ⟨rfl, ⟨nq, rfl⟩⟩
  rw [HF.out]
  go_wp2
  go_ret2
  exact ⟨rfl, pw_below_drewN (below_alloc (below_alloc (Below.refl _ _) _) _) _⟩

set_option maxHeartbeats 400000 in
theorem check_yes (D M B : Nat) (g most win n : Int) (xs : List Int) (w : World) (hd : DetAt w D M B g most win xs) (h0 : 0 ≤ n) (hf : freshD g most win xs n = true) :
    Calls Try.prog 43 #[.pointer (some ⟨D, 0, none⟩), .int .u64 n] w fun e w' => CheckYes w w' D n e := by
  have HF := Lib.hid hf
  have HD2 := Lib.hid (boxed (n := n) hd)
  clear hf hd
  go_enter Try.func43, Try.ntmps43
  go_wp2_with fail
  refine (check_any D M B g most win n xs _ HD2.out h0).mono ?_
  rintro e w1 ⟨rfl, ⟨nq, rfl⟩⟩
  rw [HF.out]
  go_wp2
  go_ret2
  refine ⟨_, _, rfl, pw_below_drewN (below_alloc (below_alloc (Below.refl _ _) _) _) _, ?_, ?_⟩
  · show ((w.alloc (.cells #[.pointer (some ⟨D, 0, none⟩)] 78)).alloc (.cells #[.int .u64 n] 26)).cell? _ = _
    have h : ((w.alloc (.cells #[.pointer (some ⟨D, 0, none⟩)] 78)).alloc (.cells #[.int .u64 n] 26)).heap[w.heap.size]? = _ := Below.heap_alloc _ _ _ (by simp)
    rw [World.cell?_of_block (w := w.alloc (.cells #[.pointer (some ⟨D, 0, none⟩)] 78)) h]
    exact cell_new _ _ _
  · show ((w.alloc (.cells #[.pointer (some ⟨D, 0, none⟩)] 78)).alloc (.cells #[.int .u64 n] 26)).cell? _ = _
    simp

theorem taken {D M B : Nat} {g most win n : Int} {xs : List Int} {w : World} (hd : DetAt w D M B g most win xs) (h0 : 0 ≤ n) (hf : freshD g most win xs n = true) :
    Calls Try.prog 44 #[.pointer (some ⟨D, 0, none⟩), .int .u64 n] w fun e w' => Took w D M B g most win xs n e w' := by
  simp only [freshD, Bool.and_eq_true, Bool.or_eq_true, decide_eq_true_eq] at hf
  by_cases h : g < n
  · exact accept_later D M B g most win n xs w hd h hf.1
  · exact accept_within D M B g most win n xs w hd h0 (by omega) (by rcases hf.2 with h2 | h2 <;> omega)

set_option maxHeartbeats 400000 in
theorem take_any (a b D M B : Nat) (g most win n : Int) (xs : List Int) (w : World) (hd : DetAt w D M B g most win xs) (h0 : 0 ≤ n) (hf : freshD g most win xs n = true)
    (ha : w.cell? ⟨a, 0, none⟩ = some (.pointer (some ⟨D, 0, none⟩))) (hb : w.cell? ⟨b, 0, none⟩ = some (.int .u64 n)) :
    Calls Try.prog 47 #[.pointer (some ⟨a, 0, none⟩), .pointer (some ⟨b, 0, none⟩)] w fun e w' => Took w D M B g most win xs n e w' := by
  have HC := Lib.hid (taken hd h0 hf)
  clear hd hf
  go_enter Try.func47, Try.ntmps47
  go_wp2_with fail
  refine HC.out.mono ?_
  rintro e w1 ⟨bb, rfl, h⟩
  have H := Lib.hid h
  clear h
  go_wp2
  go_ret
  exact ⟨_, rfl, H.out⟩

/-- The detector made anew. -/
def NewDet (w : World) (win most : Int) (e : Ending) (w' : World) : Prop :=
  ∃ D M B : Nat, e = .returned (.iface 78 (.pointer (some ⟨D, 0, none⟩))) ∧ w.heap.size ≤ D ∧ w.heap.size ≤ M ∧ w.heap.size ≤ B ∧ DetAt w' D M B 0 most win (List.replicate ((win + 63) / 64).toNat 0) ∧ Below w.heap.size w w'

set_option maxHeartbeats 400000 in
theorem new_any (win most : Int) (w : World) (h1 : 1 ≤ win) (h2 : win ≤ 500) (h3 : win % 64 ≤ 32) (h4 : win ≤ most) (h5 : most < 281474976710656) :
    Calls Try.prog 18 #[.int .u64 win, .int .u64 most] w fun e w' => NewDet w win most e w' := by
  go_enter Try.func18, Try.ntmps18
  go_wp2_with fail
  refine (new_fixed win w h1 h2 h3).mono ?_
  rintro e w1 ⟨M, B, rfl, hM, hB, hm, hb⟩
  have HM := Lib.hid hm
  have HB := Lib.hid hb
  clear hm hb
  go_wp2
  go_ret
  have hbb : Below w1.heap.size w1 (w1.alloc (.cells #[.int .u64 0, .int .u64 most, .int .u64 win, .pointer (some ⟨M, 0, none⟩)] 82)) := below_alloc (Below.refl _ _) _
  refine ⟨w1.heap.size, M, B, rfl, HB.out.size, hM, hB, ⟨heap_alloc_new w1 _, HM.out.move (hbb.block M (ltB HM.out.m)) (hbb.block B (ltB HM.out.b)), h4, h5, Int.le_refl _, by omega⟩, ?_⟩
  exact below_then HB.out HB.out.size hbb

end Go.Proofs.Ytklihfjchomkmaa
