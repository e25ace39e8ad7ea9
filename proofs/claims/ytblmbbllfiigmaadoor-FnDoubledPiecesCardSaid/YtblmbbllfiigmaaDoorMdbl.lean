/-
  FnDoubledPieces returns true for every input, and each argument reads behind the call as it read before. Conditions: none but the row's own (the listed variables start as the program's text lays them; the card ties that to the text).
-/
import Derived.Test.YtblmbbllfiigmaaDoorMtwo
import Derived.Test.YtblmbbllfiigmaaDoorPAllx5
import Derived.Test.YtblmbbllfiigmaaDoorCards
import Derived.Test.YtblmbbllfiigmaaDoorTie
import Derived.Test.YtblmbbllfiigmaaDoorRec
import Derived.WalkKit
import Derived.ProofKit
import Derived.OpenShut
import Derived.ChangeSame
import Derived.Deep.DeepHandedRow
import Derived.ShutString
import Derived.ChangeOld
import Derived.Below
import Derived.SizedLaws
import Derived.Test.YtblmbbllfiigmaaDoorWSized
namespace Go.Proofs.YtblmbbllfiigmaaDoor
open Go.RowKit Go.Proofs.YtblmbbllfiigmaaDoorW.PrintWords Go.Proofs.YtblmbbllfiigmaaDoorW.PrintLast Go.Proofs.YtblmbbllfiigmaaDoorW.PrintMore PAll

/-- What the law does with its records. -/
noncomputable def dblTail (k : Nat) (a0 : ByteArray) (x7 : List ByteArray) : Option Bool :=
  (laws_pops.f k x7 2).bind fun t276 => ((impl_Fragments.f k t276).bind fun t279 => ((laws_come.f k t276 t279).bind fun bt282 => (if bt282.2 = true then ((laws_whole.f k 11 0 a0).bind fun t286 => ((laws_texts.f k bt282.1 (([t286] : List ByteArray))).bind fun t290 => (some t290))) else (some false))))
theorem dbl_loop (P : Msgs) (a0 : ByteArray) (qs : List (Nat × Nat)) (hq : P.ok qs) (hn : qs.length ≤ 1000) (hend : Ev (fun k => dblTail k a0 ((scr P 0 qs).map (·.data))) true) : ∀ (q2 q1 : List (Nat × Nat)), qs = q1 ++ q2 →
    Ev (fun k => laws_FnDoubledPieces.l0 k a0 ((scr P 0 q1).map (·.data) ++ q2.map (fun p => strOfNums (enc (P.fr p.1 p.2)))) (qs.length : Int) (q1.length : Int)) true
  | [], q1, h => by
    have h1 : q1 = qs := by rw [h, List.append_nil]
    subst h1
    refine Ev.step hend (fun k => ?_)
    rw [laws_FnDoubledPieces.l0, if_neg (by omega), List.map_nil, List.append_nil]
    rfl
  | p :: q2, q1, h => by
    have hl : qs.length = q1.length + (q2.length + 1) := by rw [h]; simp
    have hp : p.1 < P.N := (hq p (by rw [h]; simp)).1
    have ih := dbl_loop P a0 qs hq hn hend q2 (q1 ++ [p]) (by rw [h]; simp)
    have hs : (scr P 0 q1).length = q1.length := scr_len P q1 0
    have hrec := rec_piece P p hp q1.length (by omega)
    have hget : ((scr P 0 q1).map (·.data) ++ (p :: q2).map (fun p => strOfNums (enc (P.fr p.1 p.2))))[q1.length]? = some (strOfNums (enc (P.fr p.1 p.2))) := by
      rw [List.getElem?_append_right (by rw [List.length_map, hs]; omega), List.length_map, hs, Nat.sub_self]
      rfl
    have hset : ((scr P 0 q1).map (·.data) ++ (p :: q2).map (fun p => strOfNums (enc (P.fr p.1 p.2)))).set q1.length (pushC q1.length (P.frs [p])).data = (scr P 0 (q1 ++ [p])).map (·.data) ++ q2.map (fun p => strOfNums (enc (P.fr p.1 p.2))) := by
      rw [List.set_append_right _ _ (by rw [List.length_map, hs]; omega), List.length_map, hs, Nat.sub_self, scr_app, Nat.zero_add]
      simp [scr]
    have hbody : Ev (fun k => (laws_record.f k (q1.length : Int) (strOfNums (enc (P.fr p.1 p.2)))).bind fun t => laws_FnDoubledPieces.l0 k a0 (((scr P 0 q1).map (·.data) ++ (p :: q2).map (fun p => strOfNums (enc (P.fr p.1 p.2)))).set q1.length t) (qs.length : Int) ((q1.length + 1 : Nat) : Int)) true := by
      refine Ev.bind hrec ?_
      rw [hset]
      have e : (q1 ++ [p]).length = q1.length + 1 := by simp
      rw [e] at ih
      exact ih
    refine Ev.step hbody (fun k => ?_)
    rw [laws_FnDoubledPieces.l0, if_pos (by omega), if_pos (by omega), if_pos (by rw [List.length_append, List.length_map, List.length_map, hs, List.length_cons]; omega), rdOf_at _ _ _ _ hget, w64_succ _ (by omega), Int.toNat_natCast]

theorem dbl_true (a0 : ByteArray) (a1 : Int) (l2 : List Int) : Ev (fun k => laws_FnDoubledPieces.f k a0 a1 l2) true := by
  have hout : Ev (fun k => laws_FnDoubledPieces.j0 k a0 a1 l2 true) true := Ev.step (G := fun _ => some true) (Ev.const _) (fun k => by rw [laws_FnDoubledPieces.j0, if_pos rfl])
  unfold laws_FnDoubledPieces.f
  by_cases c1 : (a0.size : Int) > 2147483647
  · exact Ev.ite c1 hout
  refine Ev.els c1 ?_
  by_cases c2 : (l2.length : Int) > 2147483647
  · rw [decide_eq_true c2]; exact hout
  rw [decide_eq_false c2]
  obtain ⟨r, hl, hr⟩ := light_ev [a0] a1 (by simp) (fun b hb => by
    obtain rfl : b = a0 := by simpa using hb
    omega)
  cases r with
  | false =>
    refine Ev.step (G := fun k => (laws_light.f k [a0] a1).bind fun t => (if t = true then ((laws_cutting.f k 11 0 a0 a1).bind fun t258 => ((some (([] : List ByteArray) : List ByteArray)).bind fun y261 => (if y261.length + t258.length < 8796093022208 then ((some (y261 ++ t258 : List ByteArray)).bind fun y264 => (if y264.length + t258.length < 8796093022208 then ((laws_shuffle.f k (y264 ++ t258) l2).bind fun t270 => (laws_FnDoubledPieces.l0 k a0 t270 (t270.length : Int) 0)) else (none))) else (none)))) else (some true))) ?_ (fun k => by rw [laws_FnDoubledPieces.j0, if_neg (by simp)])
    exact Ev.bind hl (Ev.els (by simp) (Ev.const _))
  | true =>
    obtain ⟨_, _, hs, h1, h2, h8⟩ := hr rfl
    have es : sizes [a0] = a0.size := by simp [sizes]
    rw [es] at hs h8
    obtain ⟨n, rfl⟩ : ∃ n : Nat, a1 = (n : Int) := ⟨a1.toNat, by omega⟩
    have hfew := cnt_few a0.size n (by omega) hs (by omega)
    have hcut := cuts_of a0 n (by omega) (by omega) (by omega)
    obtain ⟨m, hm⟩ : ∃ m, m = cntOf a0.size n := ⟨_, rfl⟩
    rw [← hm] at hfew hcut
    let P : Msgs := ⟨1, fun _ => bytesOf a0, fun _ => n, fun _ => m, by omega, fun _ _ => hcut, fun _ _ => by rw [bytesOf_length]; omega, fun _ _ => hfew, fun _ _ => bytes_byt a0⟩
    have hcutev : Ev (fun k => laws_cutting.f k 11 0 a0 (n : Int)) ((List.range m).map (pieceT 0 a0 n)) := cut_ev 0 a0 n m (by omega) (by omega) (by omega) hcut
    have hm1 := hcut.m1
    obtain ⟨l', hperm, hsh⟩ := shuffle_ev ((List.range m).map (pieceT 0 a0 n) ++ (List.range m).map (pieceT 0 a0 n)) l2 (by simp; omega) (by simp; omega)
    rw [← List.map_append] at hperm
    obtain ⟨qs0, hq0, rfl⟩ := perm_map (pieceT 0 a0 n) hperm _ rfl
    have hqlen : qs0.length = m + m := by rw [hq0.length_eq]; simp
    have hmem : ∀ i, i ∈ qs0 ↔ i < m := fun i => by rw [hq0.mem_iff]; simp
    -- the pieces' numbers
    obtain ⟨qs, hqs⟩ : ∃ qs, qs = qs0.map (fun i => ((0 : Nat), i)) := ⟨_, rfl⟩
    have hok : P.ok qs := fun p hp => by
      rw [hqs] at hp
      obtain ⟨i, hi, rfl⟩ := List.mem_map.1 hp
      exact ⟨by show 0 < 1; omega, (hmem i).1 hi⟩
    have hql : qs.length = m + m := by rw [hqs, List.length_map, hqlen]
    have htexts : qs0.map (pieceT 0 a0 n) = qs.map (fun p => strOfNums (enc (P.fr p.1 p.2))) := by
      rw [hqs, List.map_map]
      rfl
    -- the script
    obtain ⟨hrun, hkn, hcur⟩ := scr_run qs 0 (kn_zero P) hok
    have hall : ∀ k, k < P.N → ∀ i, i < P.m k → comes (fun _ _ => false) qs k i = true := fun k hk i hi => by
      have hk0 : k = 0 := by have : k < 1 := hk; omega
      subst hk0
      rw [comes, came]
      right
      rw [hqs]
      exact List.mem_map.2 ⟨i, (hmem i).2 hi, rfl⟩
    obtain ⟨hrun2, hcome⟩ := script_ev (scr_push P qs 0) hrun hkn hcur hall
    have hN : P.N = 1 := rfl
    rw [hN] at hrun2 hcome
    have hclen : (scr P 0 qs ++ List.replicate (1 + 1) popC).length ≤ 1000000 := by rw [List.length_append, scr_len, hql, List.length_replicate]; omega
    have hsays : ∀ c ∈ scr P 0 qs ++ List.replicate (1 + 1) popC, Says c := fun c hc => by
      rcases List.mem_append.1 hc with hc | hc
      · exact scr_says P qs 0 hok c hc
      · rw [List.eq_of_mem_replicate hc]; exact says_pop
    have hpops : Ev (fun k => laws_pops.f k ((scr P 0 qs).map (·.data)) 2) ((scr P 0 qs ++ List.replicate (1 + 1) popC).map stepOf) := by
      have h := pops_ev ((scr P 0 qs).map (·.data)) 2 (by rw [List.length_map, scr_len, hql]; omega) (by omega)
      exact h.eq (script_steps _ _ (scr_push P qs 0))
    have hwhole : Ev (fun k => laws_whole.f k 11 0 a0) (P.whole 0) := by
      have h : Ev (fun k => laws_whole.f k 11 0 a0) (strOfNums (enc ⟨11, a0.size, 0, 0, bytesOf a0⟩)) := whole_ev 11 0 a0 (by omega) (by omega)
      refine h.eq ?_
      show _ = strOfNums (enc ⟨11, (bytesOf a0).length, 0, 0, bytesOf a0⟩)
      rw [bytesOf_length]
    have htail : Ev (fun k => dblTail k a0 ((scr P 0 qs).map (·.data))) true := by
      unfold dblTail
      refine Ev.bind hpops (Ev.bind (given_ev hsays hclen hrun2) (Ev.bind (come_ev hclen) (Ev.ite rfl (Ev.bind hwhole (Ev.bind (a := true) ?_ (Ev.const _))))))
      rw [hcome]
      exact texts_ev [P.whole 0] (by simp)
    have hloop := dbl_loop P a0 qs hok (by omega) htail qs [] rfl
    refine Ev.step (G := fun k => (laws_light.f k [a0] (n : Int)).bind fun t => (if t = true then ((laws_cutting.f k 11 0 a0 (n : Int)).bind fun t258 => ((some (([] : List ByteArray) : List ByteArray)).bind fun y261 => (if y261.length + t258.length < 8796093022208 then ((some (y261 ++ t258 : List ByteArray)).bind fun y264 => (if y264.length + t258.length < 8796093022208 then ((laws_shuffle.f k (y264 ++ t258) l2).bind fun t270 => (laws_FnDoubledPieces.l0 k a0 t270 (t270.length : Int) 0)) else (none))) else (none)))) else (some true))) ?_ (fun k => by rw [laws_FnDoubledPieces.j0, if_neg (by simp)])
    refine Ev.bind hl (Ev.ite rfl (Ev.bind hcutev ?_))
    simp only [Option.bind_some, List.nil_append]
    refine Ev.ite (by simp; omega) (Ev.ite (by simp; omega) (Ev.bind hsh ?_))
    rw [List.length_map, htexts]
    have e : (qs0.length : Int) = (qs.length : Int) := by omega
    rw [e]
    exact hloop

end Go.Proofs.YtblmbbllfiigmaaDoor

namespace Go.Proofs.YtblmbbllfiigmaaDoor
open Go.ChangeShapes Go.WideShapes Go.ChangeAt Go.RowKit

theorem trod_u8 {H : Type} {enc : TypeId × Value → H} {P : Program} {w : World} {base : Nat} {sp : Nat → Bool} {held : Bool} {t : TypeId} {fuel : Nat} {cs : List Value} {n : Int} {p : List MemPlace}
    (ht : P.underlying t = some (.int .u8)) (h : DataW.trod enc P w base sp held fuel t cs = some (.lit (.int .u8 n), p)) : cs = [.int .u8 n] := by
  cases fuel with
  | zero => simp [DataW.trod] at h
  | succ fuel =>
    unfold DataW.trod at h
    rw [ht] at h
    split at h <;> simp_all

theorem gV0 : Tryd.prog.globalNamed "pub-tandemry/pub/dtls/pkg/protocol.Version1_0" = some 4 := by kernel_rfl
theorem gV2 : Tryd.prog.globalNamed "pub-tandemry/pub/dtls/pkg/protocol.Version1_2" = some 5 := by kernel_rfl
theorem gV0t : (Tryd.prog.globals[4]?).map (·.type) = some 89 := by kernel_rfl
theorem gV2t : (Tryd.prog.globals[5]?).map (·.type) = some 89 := by kernel_rfl
theorem cells5 : Tryd.prog.cellsOf 5 = 1 := by kernel_rfl
theorem cells89 : Tryd.prog.cellsOf 89 = 2 := by kernel_rfl

set_option maxRecDepth 100000 in
theorem ver_cells {W : World} {fuel : Nat} {cs : Array Value} {p : List MemPlace} {a b : Int} (h : DataW.trod (fun _ => ()) Tryd.prog W 0 (fun _ => true) false fuel 89 cs.toList = some (.agg [.lit (.int .u8 a), .lit (.int .u8 b)], p)) :
    cs[0]? = some (.int .u8 a) ∧ cs[1]? = some (.int .u8 b) := by
  obtain ⟨y0, y1, n, hx, hl, h0, h1⟩ := trod_struct2 Tryd.underlying89 h
  rw [cells89] at hl
  obtain ⟨y0d, y0p⟩ := y0
  obtain ⟨y1d, y1p⟩ := y1
  simp only [Prod.mk.injEq, DataW.agg.injEq, List.cons.injEq, and_true] at hx
  obtain ⟨⟨e0, e1⟩, _⟩ := hx
  rw [← e0] at h0
  rw [← e1] at h1
  have h0 := trod_u8 Tryd.underlying5 h0
  have h1 := trod_u8 Tryd.underlying5 h1
  rw [cells5] at h0 h1
  obtain ⟨l⟩ := cs
  match l, hl with
  | [u, v], _ =>
    simp at h0 h1
    simp [h0, h1]

set_option maxRecDepth 100000 in
theorem laid_gl {W : World} (h : laidMetH Tryd.prog Rows.fnDoubledPiecesRow.laid W) : GL W := by
  have h : laidMet Tryd.prog Rows.fnDoubledPiecesRow.laid W := h
  obtain ⟨ps, hv, _, _⟩ := h
  obtain ⟨g, t, cs, fuel, p, q, hg, ht, hc, htr, hrest, _⟩ := hv
  obtain ⟨g2, t2, cs2, fuel2, p2, q2, hg2, ht2, hc2, htr2, _, _⟩ := hrest
  obtain rfl := Option.some.inj (gV0.symm.trans hg)
  obtain rfl := Option.some.inj (gV2.symm.trans hg2)
  obtain rfl := Option.some.inj (gV0t.symm.trans ht)
  obtain rfl := Option.some.inj (gV2t.symm.trans ht2)
  obtain ⟨a0, a1⟩ := ver_cells htr
  obtain ⟨b0, b1⟩ := ver_cells htr2
  exact ⟨(World.var?_cell gV0 hc 0).trans a0, (World.var?_cell gV0 hc 1).trans a1, (World.var?_cell gV2 hc2 0).trans b0, (World.var?_cell gV2 hc2 1).trans b1⟩

theorem own : ownKnob Tryd.prog.godebug = none := by kernel_rfl

abbrev smallS : ByteArray := { data := #[98, 117, 102, 102, 101, 114, 32, 105, 115, 32, 116, 111, 111, 32, 115, 109, 97, 108, 108] }
abbrev unsupS : ByteArray := { data := #[117, 110, 115, 117, 112, 112, 111, 114, 116, 101, 100, 32, 112, 114, 111, 116, 111, 99, 111, 108, 32, 118, 101, 114, 115, 105, 111, 110] }
abbrev overS : ByteArray := { data := #[102, 114, 97, 103, 109, 101, 110, 116, 32, 98, 117, 102, 102, 101, 114, 32, 111, 118, 101, 114, 102, 108, 111, 119] }
noncomputable abbrev low : Nat := (World.holding Tryd.prog default ⟨#[], #[], []⟩).heap.size
/-- The witness: the settled world with five errors more, the seven variables holding what their initialisers lay. -/
noncomputable def laidWorld (os : Os) : World :=
  let w0 := World.holding Tryd.prog os ⟨#[.cells #[.string overS] 146, .cells #[.string smallS] 146, .cells #[.string smallS] 146, .cells #[.string unsupS] 146, .cells #[.string smallS] 146], #[], []⟩
  let put (h : Array Obj) (g : Nat) (cs : Array Value) : Array Obj := h.modify g fun
    | .cells _ t frozen => .cells cs t frozen
    | o => o
  let h1 := put w0.heap 0 #[.iface 130 (.pointer (some ⟨low, 0, none⟩))]
  let h2 := put h1 1 #[.iface 130 (.pointer (some ⟨low + 1, 0, none⟩))]
  let h3 := put h2 2 #[.iface 130 (.pointer (some ⟨low + 2, 0, none⟩))]
  let h4 := put h3 6 #[.iface 130 (.pointer (some ⟨low + 3, 0, none⟩))]
  let h5 := put h4 7 #[.iface 130 (.pointer (some ⟨low + 4, 0, none⟩))]
  let h6 := put h5 4 #[.int .u8 254, .int .u8 255]
  let h7 := put h6 5 #[.int .u8 254, .int .u8 253]
  { w0 with heap := h7 }
set_option maxRecDepth 1000000 in
theorem laid_met (os : Os) (args : Array Value) : laidMet Tryd.prog Rows.fnDoubledPiecesRow.laid ((laidWorld os).forCall (fun _ _ => 0) ⟨#[], args, []⟩).memory :=
  laidMet_of_run' 8 (by kernel_rfl) (by kernel_rfl)

end Go.Proofs.YtblmbbllfiigmaaDoor

namespace Go.Proofs.YtblmbbllfiigmaaDoor.fnDoubledPieces
open Go.ChangeShapes Go.WideShapes Go.ChangeAt Go.RowKit Go.Proofs.YtblmbbllfiigmaaDoorW
open Go.ChangeMaps (open_string shut_string)

theorem laidOut : laidOutB Tryd.prog = true := by kernel_rfl
def IsRow (k : IntKind) (w : World) (a : Option Addr) (len cap : Nat) (zs : List Int) : Prop :=
  (a = none ∧ len = 0 ∧ cap = 0 ∧ zs = []) ∨
  ∃ x, a = some x ∧ len ≤ cap ∧ cap ≤ maxLen ∧ zs.length = cap ∧ (∀ i, i < zs.length → w.cell? (x.add i) = some (.int k (zs.getD i 0))) ∧ ∀ n ∈ zs, (Lit.int k n).wf = true

theorem walk (a0 : ByteArray) (a1 : Int) (a2 : Option Addr) (len2 cap2 : Nat) (z2 : List Int) (w : World) (w2 : IsRow .i64 w a2 len2 cap2 z2) (hgl : GL w) :
    Calls Tryd.prog 3 #[.string a0, .int .i64 a1, .slice a2 len2 cap2] w fun e w' => e = .returned (.bool true) ∧ Below w.heap.size w w' := by
  obtain ⟨l2, rfl, hr2, _, _, hc2⟩ := PrintWords.ReadsInt.ofRowC w2
  obtain ⟨k, h⟩ := (dbl_true a0 a1 l2).get
  exact PAll.laws_FnDoubledPieces.calls k a0 a1 _ _ l2 true w (PrintWords.Kd.C_of_reads (d := (0 : Int)) (h1 := fun _ => rfl) hr2) hc2 h hgl

theorem reads (os : Os) {H : Type} (enc : TypeId × Value → H) : ∃ places, DataW.whole enc Tryd.prog ((laidWorld os).forCall (fun _ _ => 0) ⟨#[], #[.string ByteArray.empty, .int .i64 0, .slice none 0 0], []⟩).memory Tryd.f3.params.toList Rows.fnDoubledPiecesSpec.vars false #[Value.string ByteArray.empty, .int .i64 0, .slice none 0 0].toList 8 = some ([.lit (.string []), .lit (.int .i64 0), .nil], [], places) :=
  ⟨[], by kernel_rfl⟩

set_option maxRecDepth 1000000 in
theorem lifted (os : Os) (started : os.Started) (H : Type) (enc : TypeId × Value → H) (F : Stop.Interp) :
    ReturnsInHanded {} Tryd.checked os 3 .any ((OpenSpec.ofChange Rows.fnDoubledPiecesSpec).preRow enc Tryd.prog Tryd.f3 Rows.fnDoubledPiecesRow.domain false Rows.fnDoubledPiecesRow.laid) (((OpenSpec.ofChange Rows.fnDoubledPiecesSpec).at F).post enc Tryd.prog Tryd.f3 false true false false) := by
  obtain ⟨places, hx⟩ := reads os enc
  refine returnsInHanded_of_row (C := Tryd.checked) (s := OpenSpec.ofChange Rows.fnDoubledPiecesSpec) own started (by kernel_rfl) Tryd.func3
    (witness_row_at (enc := enc) (C := Tryd.checked) false (laidWorld os) #[.string ByteArray.empty, .int .i64 0, .slice none 0 0] rfl (by kernel_rfl) (by kernel_rfl) (by kernel_rfl)
      (OpenSpec.preRow_of_cond 8 hx (by kernel_rfl) (fun k hk => by cases hk) (by kernel_rfl) (laid_met os _))) ?_
  intro W base args ds gs before hval0 hW _ _ _ hL _ _
  have hgl := laid_gl hL
  clear hL
  have hval : ∀ (j : Nat) t v, Tryd.f3.params[j]? = some t → args[j]? = some v → Value.okWide Tryd.prog W .any base t v := hval0
  have hW' := hW
  obtain ⟨p, q, hA0, hV, rfl, hfz, hnd⟩ := hW
  have hA : DataW.TrodAll enc Tryd.prog W 0 (fun _ => true) true Tryd.f3.params.toList args.toList ds p := hA0
  rw [Tryd.params3] at hA hval
  obtain ⟨v0, vs0, d0, ds0, p0, q0, hargs, rfl, rfl, h0, r0⟩ := trodAll_cons hA
  obtain ⟨v1, vs1, d1, ds1, p1, q1, rfl, rfl, rfl, h1, r1⟩ := trodAll_cons r0
  obtain ⟨v2, vs2, d2, ds2, p2, q2, rfl, rfl, rfl, h2, r2⟩ := trodAll_cons r1
  obtain ⟨rfl, rfl, rfl⟩ := trodAll_nil r2
  obtain rfl : args = #[v0, v1, v2] := by cases args; simp_all
  obtain ⟨rfl, rfl⟩ := trodVars_none hV
  obtain ⟨a0, rfl, rfl, rfl, y0⟩ := open_string Tryd.underlying9 (hval 0 9 v0 rfl rfl) h0
  obtain ⟨a1, rfl, rfl, rfl, w1⟩ := open_int Tryd.underlying3 (hval 1 3 v1 rfl rfl) h1
  obtain ⟨a2, len2, cap2, rfl⟩ := okWide_slice Tryd.underlying22 (hval 2 22 v2 rfl rfl)
  have k2 := h2
  have lt2 : ∀ x ∈ p2, x.block < W.heap.size := by obtain ⟨m, hm⟩ := k2; exact DataW.trod_lt m _ _ _ hm
  obtain ⟨z2, w2⟩ : ∃ zs, IsRow .i64 W a2 len2 cap2 zs := by
    obtain ⟨fuel, hf⟩ := h2
    rcases open_ints Tryd.underlying22 Tryd.underlying3 (by kernel_rfl) hf with ⟨hcs, _⟩ | ⟨x, l, c, zs, hcs, _, hl, hm, hz, _, hcell, hwz⟩
    · simp [Value.cells] at hcs
      obtain ⟨rfl, rfl, rfl⟩ := hcs
      exact ⟨[], .inl ⟨rfl, rfl, rfl, rfl⟩⟩
    · simp [Value.cells] at hcs
      obtain ⟨rfl, rfl, rfl⟩ := hcs
      exact ⟨zs, .inr ⟨_, rfl, hl, hm, by simpa using hz, hcell, hwz⟩⟩
  clear hA0 hval0
  refine (walk a0 a1 a2 len2 cap2 z2 W w2 hgl).mono fun e W' ⟨he, bel⟩ => ?_
  subst he
  exact ⟨_, rfl, _, _, _, [], _, [], hW', trodAll_mk1 (shut_bool Tryd.underlying4 _), (trodAll_cons_mk (shut_string Tryd.underlying9 y0) (trodAll_cons_mk (shut_int Tryd.underlying3 w1) (trodAll_cons_mk (Below.trod laidOut (by kernel_rfl) (of_decide_eq_true (by kernel_rfl)) k2 bel lt2) trodAll_mk0))), rfl, bel.frame _, fun h => by cases h⟩

theorem said : Rows.FnDoubledPiecesSaid :=
  OpenClaim.holds_of_cond 3 Tryd.f3 rfl rfl rfl rfl rfl rfl rfl ⟨rfl, rfl, rfl, rfl, rfl⟩ rfl rfl rfl rfl rfl (by kernel_rfl) Tryd.func3 (by kernel_rfl)
    (of_decide_eq_true (by kernel_rfl)) (by unfold Func.isWrapper; first | (rw [if_pos (by decide +kernel)]; kernel_rfl) | (rw [if_neg (by decide +kernel)]; exact ⟨rfl, rfl⟩))
    (fun os started H enc _ F => by rw [OpenClaim.pre_eq_preRow]; exact lifted os started H enc F)

theorem plain (f : FuncId) (fn : Func) (hf : Tryd.pinned.checked.prog.funcNamed "pub-tandemry/laws.FnDoubledPieces" = some f) (hfn : Tryd.pinned.checked.prog.funcs[f]? = some fn) :
    false = Tryd.pinned.checked.prog.looks [] ∧ ∀ (j : Nat) t, fn.params[j]? = some t → Tryd.pinned.checked.prog.wantsStandIn t = false := by
  obtain rfl : f = 3 := Option.some.inj ((show Tryd.prog.funcNamed "pub-tandemry/laws.FnDoubledPieces" = some 3 by kernel_rfl).symm.trans hf) |>.symm
  obtain rfl : fn = Tryd.f3 := (Option.some.inj (Tryd.func3.symm.trans hfn)).symm
  refine ⟨by kernel_rfl, fun j t ht => ?_⟩
  rw [Tryd.params3] at ht
  have h : t = 9 ∨ t = 3 ∨ t = 22 := by simpa using Array.mem_of_getElem? ht
  rcases h with rfl | rfl | rfl
  · exact (show Tryd.prog.wantsStandIn 9 = false by kernel_rfl)
  · exact (show Tryd.prog.wantsStandIn 3 = false by kernel_rfl)
  · exact (show Tryd.prog.wantsStandIn 22 = false by kernel_rfl)

theorem card : Rows.FnDoubledPiecesCardSaid :=
  Claim7.holds_tied_plain_at .later [] _ _ _ _ said (fun _ h => by cases h) (by kernel_rfl) (fun _ h => by cases h) fnDoubledPieces_row_tie rfl ⟨rfl, rfl⟩ (by kernel_rfl) rfl plain (by kernel_rfl)
end Go.Proofs.YtblmbbllfiigmaaDoor.fnDoubledPieces
namespace Go.Proofs.YtblmbbllfiigmaaDoor
/-- The card, under a short name, for the claim. -/
theorem fnDoubledPieces_holds : Rows.FnDoubledPiecesCardSaid := fnDoubledPieces.card
#print axioms fnDoubledPieces_holds
end Go.Proofs.YtblmbbllfiigmaaDoor
