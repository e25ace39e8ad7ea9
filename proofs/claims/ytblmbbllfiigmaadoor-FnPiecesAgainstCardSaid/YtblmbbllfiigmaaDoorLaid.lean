/-
  What the rows' list of variables gives; a world in which they hold what the program's text lays.
-/
import Derived.Test.YtblmbbllfiigmaaDoorCards
import Derived.Test.YtblmbbllfiigmaaDoorTie
import Derived.Test.YtblmbbllfiigmaaDoorRec
import Derived.WalkKit
import Derived.ProofKit
import Derived.OpenShut
import Derived.ChangeSame
import Derived.Deep.DeepHandedRow
namespace Go.Proofs.YtblmbbllfiigmaaDoor
open Go.ChangeShapes Go.WideShapes Go.ChangeAt Go.RowKit

theorem trod_u8 {H : Type} {enc : TypeId × Value → H} {P : Program} {w : World} {base : Nat} {sp : Nat → Bool} {held : Bool} {t : TypeId} {fuel : Nat} {cs : List Value} {n : Int} {p : List MemPlace}
    (ht : P.underlying t = some (.int .u8)) (h : DataW.trod enc P w base sp held fuel t cs = some (.lit (.int .u8 n), p)) : cs = [.int .u8 n] := by
  cases fuel with
  | zero => simp [DataW.trod] at h
  | succ fuel =>
    unfold DataW.trod at h
    rw [ht] at h
    split at h <;> simp_all

theorem gV0 : Tryd.prog.globalNamed "pub-tandemry/pub/dtls/pkg/protocol.Version1_0" = some 4 := by kernel_rfl
theorem gV2 : Tryd.prog.globalNamed "pub-tandemry/pub/dtls/pkg/protocol.Version1_2" = some 5 := by kernel_rfl
theorem gV0t : (Tryd.prog.globals[4]?).map (·.type) = some 89 := by kernel_rfl
theorem gV2t : (Tryd.prog.globals[5]?).map (·.type) = some 89 := by kernel_rfl
theorem cells5 : Tryd.prog.cellsOf 5 = 1 := by kernel_rfl
theorem cells89 : Tryd.prog.cellsOf 89 = 2 := by kernel_rfl

set_option maxRecDepth 100000 in
theorem ver_cells {W : World} {fuel : Nat} {cs : Array Value} {p : List MemPlace} {a b : Int} (h : DataW.trod (fun _ => ()) Tryd.prog W 0 (fun _ => true) false fuel 89 cs.toList = some (.agg [.lit (.int .u8 a), .lit (.int .u8 b)], p)) :
    cs[0]? = some (.int .u8 a) ∧ cs[1]? = some (.int .u8 b) := by
  obtain ⟨y0, y1, n, hx, hl, h0, h1⟩ := trod_struct2 Tryd.underlying89 h
  rw [cells89] at hl
  obtain ⟨y0d, y0p⟩ := y0
  obtain ⟨y1d, y1p⟩ := y1
  simp only [Prod.mk.injEq, DataW.agg.injEq, List.cons.injEq, and_true] at hx
  obtain ⟨⟨e0, e1⟩, _⟩ := hx
  rw [← e0] at h0
  rw [← e1] at h1
  have h0 := trod_u8 Tryd.underlying5 h0
  have h1 := trod_u8 Tryd.underlying5 h1
  rw [cells5] at h0 h1
  obtain ⟨l⟩ := cs
  match l, hl with
  | [u, v], _ =>
    simp at h0 h1
    simp [h0, h1]

set_option maxRecDepth 100000 in
theorem laid_gl {W : World} (h : laidMetH Tryd.prog Rows.fnDoubledPiecesRow.laid W) : GL W := by
  have h : laidMet Tryd.prog Rows.fnDoubledPiecesRow.laid W := h
  obtain ⟨ps, hv, _, _⟩ := h
  obtain ⟨g, t, cs, fuel, p, q, hg, ht, hc, htr, hrest, _⟩ := hv
  obtain ⟨g2, t2, cs2, fuel2, p2, q2, hg2, ht2, hc2, htr2, _, _⟩ := hrest
  obtain rfl := Option.some.inj (gV0.symm.trans hg)
  obtain rfl := Option.some.inj (gV2.symm.trans hg2)
  obtain rfl := Option.some.inj (gV0t.symm.trans ht)
  obtain rfl := Option.some.inj (gV2t.symm.trans ht2)
  obtain ⟨a0, a1⟩ := ver_cells htr
  obtain ⟨b0, b1⟩ := ver_cells htr2
  exact ⟨(World.var?_cell gV0 hc 0).trans a0, (World.var?_cell gV0 hc 1).trans a1, (World.var?_cell gV2 hc2 0).trans b0, (World.var?_cell gV2 hc2 1).trans b1⟩

theorem own : ownKnob Tryd.prog.godebug = none := by kernel_rfl

abbrev smallS : ByteArray := { data := #[98, 117, 102, 102, 101, 114, 32, 105, 115, 32, 116, 111, 111, 32, 115, 109, 97, 108, 108] }
abbrev unsupS : ByteArray := { data := #[117, 110, 115, 117, 112, 112, 111, 114, 116, 101, 100, 32, 112, 114, 111, 116, 111, 99, 111, 108, 32, 118, 101, 114, 115, 105, 111, 110] }
abbrev overS : ByteArray := { data := #[102, 114, 97, 103, 109, 101, 110, 116, 32, 98, 117, 102, 102, 101, 114, 32, 111, 118, 101, 114, 102, 108, 111, 119] }
noncomputable abbrev low : Nat := (World.holding Tryd.prog default ⟨#[], #[], []⟩).heap.size
/-- The witness: the settled world with five errors more, the seven variables holding what their initialisers lay. -/
noncomputable def laidWorld (os : Os) : World :=
  let w0 := World.holding Tryd.prog os ⟨#[.cells #[.string overS] 146, .cells #[.string smallS] 146, .cells #[.string smallS] 146, .cells #[.string unsupS] 146, .cells #[.string smallS] 146], #[], []⟩
  let put (h : Array Obj) (g : Nat) (cs : Array Value) : Array Obj := h.modify g fun
    | .cells _ t frozen => .cells cs t frozen
    | o => o
  let h1 := put w0.heap 0 #[.iface 130 (.pointer (some ⟨low, 0, none⟩))]
  let h2 := put h1 1 #[.iface 130 (.pointer (some ⟨low + 1, 0, none⟩))]
  let h3 := put h2 2 #[.iface 130 (.pointer (some ⟨low + 2, 0, none⟩))]
  let h4 := put h3 6 #[.iface 130 (.pointer (some ⟨low + 3, 0, none⟩))]
  let h5 := put h4 7 #[.iface 130 (.pointer (some ⟨low + 4, 0, none⟩))]
  let h6 := put h5 4 #[.int .u8 254, .int .u8 255]
  let h7 := put h6 5 #[.int .u8 254, .int .u8 253]
  { w0 with heap := h7 }
set_option maxRecDepth 1000000 in
theorem laid_met (os : Os) (args : Array Value) : laidMet Tryd.prog Rows.fnDoubledPiecesRow.laid ((laidWorld os).forCall (fun _ _ => 0) ⟨#[], args, []⟩).memory :=
  laidMet_of_run' 8 (by kernel_rfl) (by kernel_rfl)

end Go.Proofs.YtblmbbllfiigmaaDoor
