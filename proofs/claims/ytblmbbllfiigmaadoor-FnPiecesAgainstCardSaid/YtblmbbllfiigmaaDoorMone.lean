/-
  The doors of a buffer of fragments, impl.Fragments over them, and laws.come, walked.
-/
import Derived.Test.YtblmbbllfiigmaaDoorPush
import Derived.Test.YtblmbbllfiigmaaDoorPop
import Derived.Laws.Rows
import Derived.Test.YtblmbbllfiigmaaDoorPAllx0
import Derived.Maps.AppendAt
import Derived.Test.YtblmbbllfiigmaaDoorBase
import Derived.Deep.DeepCutAuto
namespace Go.Proofs.YtblmbbllfiigmaaDoor
open Go.RowKit Go.Proofs.YtblmbbllfiigmaaDoorW.PrintWords Go.Proofs.YtblmbbllfiigmaaDoorW.PrintLast Go.Proofs.YtblmbbllfiigmaaDoorW.PrintMore

theorem own_up {W : World} {b b' : Nat} {e : TypeId} {size n : Nat} {v : Value} {cs : List Value} (h : W.ownsRow b e size v n cs) (hb : ∀ k, v.ownBlock = some k → b' ≤ k) : W.ownsRow b' e size v n cs := by
  refine ⟨h.1, ?_⟩
  rcases h.2 with h2 | ⟨g, cap, cur, rfl, _, r⟩
  · exact .inl h2
  · exact .inr ⟨g, cap, cur, rfl, hb g rfl, r⟩

/-- A buffer that holds nothing. -/
def st0 : St := ⟨0, 0, 0, []⟩

theorem buf_new (base : Nat) (w : World) (hb : base ≤ w.heap.size) : BufAt ((w.alloc (.map #[] 0)).alloc (.cells #[.map (some w.heap.size), .int .u16 0, .int .i64 0, .int .i64 0] 86)) base (w.alloc (.map #[] 0)).heap.size st0 := by
  have e1 : (w.alloc (.map #[] 0)).heap.size = w.heap.size + 1 := by simp
  refine ⟨w.heap.size, [], ⟨?_, ?_, by simp, List.Pairwise.nil, by omega, hb⟩, rfl⟩
  · exact blk_new (w.alloc (.map #[] 0)) _
  · have h := HasMap.new .u16 w
    exact h.move ((below_alloc (Below.refl (w.alloc (.map #[] 0)).heap.size (w.alloc (.map #[] 0))) _).block w.heap.size (by omega))

set_option maxRecDepth 100000 in
set_option maxHeartbeats 1000000 in
theorem new30_any (w : World) : Calls Tryd.prog 30 #[] w fun e w' => e = .returned (.pointer (some ⟨(w.alloc (.map #[] 0)).heap.size, 0, none⟩)) ∧ w' = (w.alloc (.map #[] 0)).alloc (.cells #[.map (some w.heap.size), .int .u16 0, .int .i64 0, .int .i64 0] 86) := by
  have hmm := @run_makeMap Tryd.prog
  go_enter Tryd.func30, Tryd.ntmps30
  go_wp2
  go_ret
  exact ⟨by simp, rfl⟩

set_option maxRecDepth 100000 in
set_option maxHeartbeats 1000000 in
theorem zznew_any (base : Nat) (w : World) (hb : base ≤ w.heap.size) : Calls Tryd.prog 22 #[] w fun e w' => ∃ Z, e = .returned (.agg #[.pointer (some ⟨Z, 0, none⟩)]) ∧ BufAt w' base Z st0 ∧ Below w.heap.size w w' := by
  have HB := Aside0.mk hb
  clear hb
  go_enter Tryd.func22, Tryd.ntmps22
  go_wp2_with fail
  have HBA : Aside0 (Below w.heap.size w (w.alloc (.cells #[.pointer none] 53))) := ⟨below_alloc (Below.refl _ w) _⟩
  have HBX := Aside0.mk (blk_new w (.cells [.pointer none].toArray 53))
  refine (new30_any (w.alloc (.cells #[.pointer none] 53))).mono ?_
  rintro e w1 ⟨rfl, rfl⟩
  have HBUF := Aside0.mk (buf_new base (w.alloc (.cells #[.pointer none] 53)) (Nat.le_trans HB.out HBA.out.size))
  have HB2 : Aside0 (Below (w.alloc (.cells #[.pointer none] 53)).heap.size (w.alloc (.cells #[.pointer none] 53)) (((w.alloc (.cells #[.pointer none] 53)).alloc (.map #[] 0)).alloc (.cells #[.map (some (w.alloc (.cells #[.pointer none] 53)).heap.size), .int .u16 0, .int .i64 0, .int .i64 0] 86))) := ⟨below_then (below_alloc (Below.refl _ _) _) (below_alloc (Below.refl _ _) _).size (below_alloc (Below.refl _ _) _)⟩
  generalize ((w.alloc (.cells #[.pointer none] 53)).alloc (.map #[] 0)).heap.size = Z at *
  generalize ((w.alloc (.cells #[.pointer none] 53)).alloc (.map #[] 0)).alloc (.cells #[.map (some (w.alloc (.cells #[.pointer none] 53)).heap.size), .int .u16 0, .int .i64 0, .int .i64 0] 86) = w2 at *
  have hx2 := (HB2.out.block w.heap.size (ltB HBX.out)).trans HBX.out
  have c0 : w2.cell? ⟨w.heap.size, 0, none⟩ = some (.pointer none) := cellB hx2 0
  have cf := fun j => frozB hx2 j
  have HC := Aside0.mk (blk_setL hx2 0 (.pointer (some ⟨Z, 0, none⟩)))
  have HBS : Aside0 (BufAt (w2.setCell ⟨w.heap.size, 0, none⟩ (.pointer (some ⟨Z, 0, none⟩))) base Z st0) := ⟨by
    obtain ⟨M, xs, hx, hms⟩ := HBUF.out
    have hxs : xs = [] := by simpa [sts, st0] using hms
    subst hxs
    have hg := grB w2 w.heap.size 0 (.pointer (some ⟨Z, 0, none⟩))
    refine ⟨M, [], ⟨(hg.block Z (ltB hx.z) (fun e => by injection e with e; exact cellsNe hx.z hx2 (by decide) e)).trans hx.z, hx.m.move (hg.block M hx.m.lt (fun e => by injection e with e; exact mapNe hx.m hx2 e.symm)), by simp, List.Pairwise.nil, hx.bz, hx.bm⟩, rfl⟩⟩
  have HBF : Aside0 (Below w.heap.size w (w2.setCell ⟨w.heap.size, 0, none⟩ (.pointer (some ⟨Z, 0, none⟩)))) := ⟨below_set (below_then HBA.out HBA.out.size HB2.out) (Nat.le_refl _)⟩
  clear hx2
  go_wp2_with fail
  refine bodyPost_ret (results_cell_row rfl _ _ w.heap.size 53 _ _ _ rfl HC.out Tryd.underlying53 rfl (by kernel_rfl)) rfl ?_
  exact ⟨Z, rfl, HBS.out, HBF.out⟩

set_option maxRecDepth 100000 in
set_option maxHeartbeats 1000000 in
theorem zzsize_any (Z : Nat) (n : Int) (w : World) (hz : w.cell? ⟨Z, 2, none⟩ = some (.int .i64 n)) :
    Calls Tryd.prog 25 #[.agg #[.pointer (some ⟨Z, 0, none⟩)]] w fun e w' => e = .returned (.int .i64 n) ∧ Below w.heap.size w w' := by
  go_enter Tryd.func25, Tryd.ntmps25
  go_wp2_with fail
  have HB := Aside0.mk (below_alloc (Below.refl w.heap.size w) (.cells #[.pointer (some ⟨Z, 0, none⟩)] 53))
  refine (size_any Z n _ (pw_cell_below HB.out hz)).mono ?_
  rintro e w1 ⟨rfl, hb⟩
  have HB1 := Aside0.mk (below_then HB.out HB.out.size hb)
  clear hb
  go_wp2
  go_ret
  exact ⟨rfl, HB1.out⟩

set_option maxRecDepth 100000 in
set_option maxHeartbeats 1000000 in
theorem zzpop_none (Z base : Nat) (s : St) (w : World) (hbuf : BufAt w base Z s) (hcur : s.cur < 65536) (hno : ∀ f, lookF s.cur s.ms = some f → f.cov < (f.len : Int)) :
    Calls Tryd.prog 24 #[.agg #[.pointer (some ⟨Z, 0, none⟩)]] w fun e w' => e = .returned (.tuple #[.slice none 0 0, .int .u16 0]) ∧ Below w.heap.size w w' := by
  have HBUF := Aside0.mk hbuf
  have HNO := Aside0.mk hno
  clear hbuf hno
  go_enter Tryd.func24, Tryd.ntmps24
  go_wp2_with fail
  have HB := Aside0.mk (below_alloc (Below.refl w.heap.size w) (.cells #[.pointer (some ⟨Z, 0, none⟩)] 53))
  refine (pop_none Z base s _ (HBUF.out.below HB.out) hcur HNO.out).mono ?_
  rintro e w1 ⟨rfl, hb⟩
  have HB1 := Aside0.mk (below_then HB.out HB.out.size hb)
  clear hb
  go_wp2
  go_ret2
  exact ⟨rfl, HB1.out⟩

/-- What a pop of a whole message asks for. -/
structure PopOk (s : St) (f : Fr) (t n sq : Nat) : Prop where
  cur : s.cur + 1 < 65536
  look : lookF s.cur s.ms = some f
  full : (f.len : Int) ≤ f.cov
  e0 : f.h0 = t
  e1 : f.h1 = n
  e2 : f.h2 = sq
  n : n < 16777216
  sq : sq < 65536
  tight : Tight 0 f.ps
  small : Small f.ps
  cnt : f.ps.length ≤ 10000
  len : f.len ≤ 100000
  sum : sumL f.ps ≤ 100000
  s0 : 0 ≤ s.size
  s1 : s.size ≤ 1000000
  c0 : 0 ≤ s.count
  c1 : s.count ≤ 1000000

set_option maxRecDepth 100000 in
set_option maxHeartbeats 1000000 in
theorem zzpop_some (Z base : Nat) (s : St) (f : Fr) (t n sq : Nat) (w : World) (hbuf : BufAt w base Z s) (hok : PopOk s f t n sq) (hbase : base ≤ w.heap.size) :
    Calls Tryd.prog 24 #[.agg #[.pointer (some ⟨Z, 0, none⟩)]] w fun e w' => ∃ v, e = .returned (.tuple #[v, .int .u16 f.ep]) ∧ w'.ownsRow w.heap.size 5 1 v (outF f t n sq).length (encs (Value.int .u8) (outF f t n sq)) ∧ BufAt w' base Z (popSt s f) ∧ KeepT base w w' := by
  have HBUF := Aside0.mk hbuf
  have HOK := Aside0.mk hok
  have HBASE := Aside0.mk hbase
  clear hbuf hok hbase
  go_enter Tryd.func24, Tryd.ntmps24
  go_wp2_with fail
  have HB := Aside0.mk (below_alloc (Below.refl w.heap.size w) (.cells #[.pointer (some ⟨Z, 0, none⟩)] 53))
  have h := HOK.out
  refine (pop_some Z base s f t n sq _ (HBUF.out.below HB.out) h.cur h.look h.full h.e0 h.e1 h.e2 h.n h.sq h.tight h.small h.cnt h.len h.sum h.s0 h.s1 h.c0 h.c1 (Nat.le_trans HBASE.out HB.out.size)).mono ?_
  rintro e w1 ⟨v, rfl, ho, hb, hk⟩
  have HO : Aside0 (w1.ownsRow w.heap.size 5 1 v (outF f t n sq).length (encs (Value.int .u8) (outF f t n sq))) := ⟨own_up ho (fun k hk2 => Nat.le_trans HB.out.size (own_base ho k hk2))⟩
  have HB1 := Aside0.mk hb
  have HK := Aside0.mk ((KeepT.of_below HBASE.out HB.out).trans hk)
  obtain ⟨A, c, hv⟩ := own_slice ho
  subst hv
  clear ho hb hk h
  go_wp2
  go_ret2
  exact ⟨_, rfl, HO.out, HB1.out, HK.out⟩

/-- What a push asks for of its bytes. -/
structure RecOk (l : List Int) (ep : Int) (gs : List Frag) : Prop where
  byt : Byt l
  n0 : 13 < l.length
  n1 : l.length ≤ 100000
  e0 : l.getD 0 0 = 22
  e1 : l.getD 1 0 = 254
  e2 : l.getD 2 0 = 253
  ep : Lib.beZ ((l.drop 3).take 2) = ep
  gs : l.drop 13 = gs.flatMap enc

set_option maxRecDepth 100000 in
set_option maxHeartbeats 1000000 in
theorem zzpush_any (Z base b o c : Nat) (ep : Int) (s : St) (gs : List Frag) (l : List Int) (w : World) (hbuf : BufAt w base Z s) (hr : BytAt w b o l) (hb5 : ∃ cells m, w.heap[b]? = some (.cells cells 5 m)) (hc : l.length ≤ c) (hrec : RecOk l ep gs) (hgl : GL w) (hbase : base ≤ w.heap.size) (h5 : 5 < base)
    (ok : AllOk ep s gs) (hs0 : 0 ≤ s.size) (hs1 : s.size ≤ 1000000) (hcur : s.cur < 65536) :
    Calls Tryd.prog 23 #[.agg #[.pointer (some ⟨Z, 0, none⟩)], .slice (some ⟨b, o, none⟩) l.length c] w fun e w' => e = .returned (.tuple #[.bool true, .bool (againOf s.cur gs), .nilIface]) ∧ BufAt w' base Z (gs.foldl (stPut ep) s) ∧ KeepT base w w' := by
  have HBUF := Aside0.mk hbuf
  have HR := Aside0.mk hr
  have HB5 := Aside0.mk hb5
  have HREC := Aside0.mk hrec
  have HGL := Aside0.mk hgl
  have HBASE := Aside0.mk hbase
  have OK := Aside0.mk ok
  clear hbuf hr hb5 hrec hgl hbase ok
  go_enter Tryd.func23, Tryd.ntmps23
  go_wp2_with fail
  have HB := Aside0.mk (below_alloc (Below.refl w.heap.size w) (.cells #[.pointer (some ⟨Z, 0, none⟩)] 53))
  have h := HREC.out
  refine (push_any Z base b o c ep s gs l _ (HBUF.out.below HB.out) (HR.out.below HB.out) h.byt (by obtain ⟨cells, m, h5⟩ := HB5.out; exact ⟨cells, m, (HB.out.block b (ltB h5)).trans h5⟩) hc h.n0 h.n1 h.e0 h.e1 h.e2 h.ep h.gs (HGL.out.below HB.out HGL.out.lt) (Nat.le_trans HBASE.out HB.out.size) h5 OK.out hs0 hs1 hcur).mono ?_
  rintro e w1 ⟨rfl, hb, hk⟩
  have HB1 := Aside0.mk hb
  have HK := Aside0.mk ((KeepT.of_below HBASE.out HB.out).trans hk)
  clear hb hk h
  go_wp2
  go_ret3
  exact ⟨rfl, HB1.out, HK.out⟩

end Go.Proofs.YtblmbbllfiigmaaDoor

namespace Go.Proofs.YtblmbbllfiigmaaDoor
open Go.RowKit Go.Proofs.YtblmbbllfiigmaaDoorW.PrintWords Go.Proofs.YtblmbbllfiigmaaDoorW.PrintLast Go.Proofs.YtblmbbllfiigmaaDoorW.PrintMore PAll

/-- A step of a script. -/
structure Cmd where
  push : Bool
  data : ByteArray
  gs : List Frag
def outB (f : Fr) : ByteArray := strOfNums (outF f f.h0.toNat f.h1.toNat f.h2.toNat)
/-- The message that is next, if all of it is there. -/
def fullF (s : St) : Option Fr :=
  match lookF s.cur s.ms with
  | some f => if (f.len : Int) ≤ f.cov then some f else none
  | none => none
def stepSt (s : St) (c : Cmd) : St :=
  if c.push then c.gs.foldl (stPut 0) s else
  match fullF s with
  | some f => popSt s f
  | none => s
def stepTold (s : St) (c : Cmd) : S43 :=
  if c.push then ⟨true, againOf s.cur c.gs, false, false, ⟨#[]⟩, 0, (stepSt s c).size⟩ else
  match fullF s with
  | some f => ⟨false, false, false, true, outB f, f.ep, (stepSt s c).size⟩
  | none => ⟨false, false, false, false, ⟨#[]⟩, 0, (stepSt s c).size⟩
structure CmdOk (s : St) (c : Cmd) : Prop where
  cur : s.cur + 1 < 65536
  s0 : 0 ≤ s.size
  s1 : s.size ≤ 1000000
  push : c.push = true → RecOk (bytesOf c.data) 0 c.gs ∧ AllOk 0 s c.gs
  pop : c.push = false → ∀ f, fullF s = some f → PopOk s f f.h0.toNat f.h1.toNat f.h2.toNat
def RunOk : St → List Cmd → Prop
  | _, [] => True
  | s, c :: r => CmdOk s c ∧ RunOk (stepSt s c) r
def runSt (s : St) (cs : List Cmd) : St := cs.foldl stepSt s
def runTold : St → List Cmd → List S43
  | _, [] => []
  | s, c :: r => stepTold s c :: runTold (stepSt s c) r
theorem runTold_snoc : ∀ (cs : List Cmd) (s : St) (c : Cmd), runTold s (cs ++ [c]) = runTold s cs ++ [stepTold (runSt s cs) c]
  | [], s, c => rfl
  | d :: cs, s, c => by
    rw [List.cons_append, runTold, runTold_snoc cs (stepSt s d) c]
    rfl
theorem runTold_len : ∀ (cs : List Cmd) (s : St), (runTold s cs).length = cs.length
  | [], _ => rfl
  | d :: cs, s => by rw [runTold, List.length_cons, List.length_cons, runTold_len cs]

/-- The cells of what one step tells. -/
def tc (x : S43) : List Value := [.bool x.f0, .bool x.f1, .bool x.f2, .bool x.f3, .string x.f4, .int .u16 x.f5, .int .i64 x.f6]
/-- A row of what is told. -/
structure RowT (w : World) (base : Nat) (v : Value) (l : List S43) : Prop where
  ex : ∃ cells, w.ownsRow base 43 7 v l.length cells ∧ Reps (fun x cs => cs = tc x) 7 l cells
theorem RowT.keep {w w1 : World} {base : Nat} {v : Value} {l : List S43} (h : RowT w base v l) (hk : ∀ (k : Nat) (c : Array Value), w.heap[k]? = some (.cells c 43) → v.ownBlock = some k → w1.heap[k]? = w.heap[k]?) : RowT w1 base v l := by
  obtain ⟨cells, ho, hr⟩ := h.ex
  refine ⟨⟨cells, own_move ho (fun k hkk => ?_), hr⟩⟩
  obtain ⟨c, hc⟩ := own_typed ho k hkk
  exact hk k c hc hkk
theorem RowT.keepT {w w1 : World} {base b2 : Nat} {v : Value} {l : List S43} (h : RowT w base v l) (hk : KeepT b2 w w1) : RowT w1 base v l :=
  h.keep (fun k c hc _ => hk.kind k c 43 (0, 0) hc (by decide) (by decide) (by decide))
theorem RowT.below {w w1 : World} {base : Nat} {v : Value} {l : List S43} (h : RowT w base v l) (hb : Below w.heap.size w w1) : RowT w1 base v l :=
  h.keep (fun k _ hc _ => hb.block k (ltB hc))

/-- Where the loop of Fragments stands. -/
structure ImplRel (w : World) (Z ZB : Nat) (done todo : List Cmd) (v : Value) (wr : World) : Prop where
  row : RowT wr w.heap.size v (runTold st0 done)
  buf : BufAt wr w.heap.size Z (runSt st0 done)
  bel : Below w.heap.size w wr
  zb : wr.heap[ZB]? = some (.cells [.pointer (some ⟨Z, 0, none⟩)].toArray 53)
  ok : RunOk (runSt st0 done) todo

theorem BufAt.far {w w' : World} {base Z r : Nat} {s : St} {l : Array Value} (h : BufAt w base Z s) (hg : w.grownBy w' (some r)) (hr : w.heap[r]? = some (.cells l 43)) : BufAt w' base Z s := by
  obtain ⟨M, xs, hx, hms⟩ := h
  have ne : ∀ (k : Nat) (c : Array Value) (t : TypeId), w.heap[k]? = some (.cells c t) → t ≠ 43 → some k ≠ some r := fun k c t hk ht e => by
    injection e with e
    exact cellsNe hk hr ht e
  refine ⟨M, xs, ⟨(hg.block Z (ltB hx.z) (ne _ _ _ hx.z (by decide))).trans hx.z, hx.m.move (hg.block M hx.m.lt (fun e => by injection e with e; exact mapNe hx.m hr e.symm)), fun x hxm => ?_, hx.sep, hx.bz, hx.bm⟩, hms⟩
  obtain ⟨a, b, c⟩ := hx.fr x hxm
  refine ⟨a, (hg.block _ (ltB b) (ne _ _ _ b (by decide))).trans b, c.move (fun k hk => ?_) (Keep5.grown hg (fun b cells m e => ?_))⟩
  · obtain ⟨_, hlt, c1, hc1⟩ := c.own k hk
    exact hg.block k hlt (ne _ _ _ hc1 (by decide))
  · injection e with e
    subst e
    rw [hr]
    intro e
    injection e with e
    injection e with _ e
    exact absurd e (by decide)

/-- Where a round of Fragments stands ahead of the append. -/
structure ImplMid (w : World) (Z ZB TB : Nat) (v : Value) (done : List Cmd) (s : St) (t : S43) (wx : World) : Prop where
  row : RowT wx w.heap.size v (runTold st0 done)
  ne : v.ownBlock ≠ some TB
  buf : BufAt wx w.heap.size Z s
  bel : Below w.heap.size w wx
  zb : wx.heap[ZB]? = some (.cells [.pointer (some ⟨Z, 0, none⟩)].toArray 53)
  tb : wx.heap[TB]? = some (.cells (tc t).toArray 43)
  tw : w.heap.size ≤ TB
theorem ImplMid.turn {w wx wy : World} {Z ZB TB : Nat} {v : Value} {done : List Cmd} {s : St} {t t' : S43} (h : ImplMid w Z ZB TB v done s t wx) (hg : wx.grownBy wy (some TB)) (ht : wy.heap[TB]? = some (.cells (tc t').toArray 43)) : ImplMid w Z ZB TB v done s t' wy := by
  refine ⟨h.row.keep (fun k c hc hk => hg.block k (ltB hc) (fun e => h.ne (by rw [hk, e]))), h.ne, h.buf.far hg h.tb, ?_, (hg.block ZB (ltB h.zb) (fun e => by injection e with e; exact cellsNe h.zb h.tb (by decide) e)).trans h.zb, ht, h.tw⟩
  exact ⟨hg.os.trans h.bel.os, hg.tape.trans h.bel.tape, hg.output.trans h.bel.output, Nat.le_trans h.bel.size hg.size, fun k hk => (hg.block k (Nat.lt_of_lt_of_le hk h.bel.size) (fun e => by injection e with e; have := h.tw; omega)).trans (h.bel.block k hk)⟩
theorem ImplMid.keepT {w wx wy : World} {Z ZB TB : Nat} {v : Value} {done : List Cmd} {s s' : St} {t : S43} (h : ImplMid w Z ZB TB v done s t wx) (hk : KeepT w.heap.size wx wy) (hb : BufAt wy w.heap.size Z s') : ImplMid w Z ZB TB v done s' t wy :=
  ⟨h.row.keepT hk, h.ne, hb, h.bel.trans hk.below, (hk.kind ZB _ 53 (0, 0) h.zb (by decide) (by decide) (by decide)).trans h.zb, (hk.kind TB _ 43 (0, 0) h.tb (by decide) (by decide) (by decide)).trans h.tb, h.tw⟩
theorem ImplMid.below {w wx wy : World} {Z ZB TB : Nat} {v : Value} {done : List Cmd} {s : St} {t : S43} (h : ImplMid w Z ZB TB v done s t wx) (hb : Below wx.heap.size wx wy) : ImplMid w Z ZB TB v done s t wy :=
  h.keepT (KeepT.of_below h.bel.size hb) (h.buf.below hb)

/-- What a step tells, but how much is kept. -/
def told0 (s : St) (c : Cmd) : S43 := { stepTold s c with f6 := 0 }

theorem told_size (s : St) (c : Cmd) : stepTold s c = { told0 s c with f6 := (stepSt s c).size } := by
  unfold told0 stepTold
  split
  · rfl
  · split <;> rfl

theorem info43 : (Tryd.prog.info? 43).map (fun i => (i.zero, i.size, i.bytes)) = some (some (.agg #[.bool false, .bool false, .bool false, .bool false, .string ⟨#[]⟩, .int .u16 0, .int .i64 0]), 7, 40) := by kernel_rfl

set_option maxRecDepth 100000 in
set_option maxHeartbeats 4000000 in
theorem impl_any (A : Option Addr) (c : Nat) (cmds : List Cmd) (w : World) (hr : Kd.C k40 w A cmds.length (cmds.map fun c => ⟨c.push, c.data⟩)) (hc : cmds.length ≤ c) (hn : cmds.length ≤ 1000000) (hgl : GL w) (ok : RunOk st0 cmds) :
    Calls Tryd.prog 13 #[.slice A cmds.length c] w fun e w' => ∃ v, e = .returned v ∧ RowT w' w.heap.size v (runTold st0 cmds) ∧ Below w.heap.size w w' := by
  have HR := Aside0.mk hr
  have HGL := Aside0.mk hgl
  have OK := Aside0.mk ok
  clear hr hgl ok
  go_enter Tryd.func13, Tryd.ntmps13
  go_wp2_with fail
  refine (zznew_any w.heap.size w (Nat.le_refl _)).mono ?_
  rintro e w1 ⟨Z, rfl, hbuf, hbel⟩
  have HBUF := Aside0.mk hbuf
  have HBEL := Aside0.mk hbel
  clear hbuf hbel
  go_upto_region 4 with fail
  have H0 : Aside0 (ImplRel w Z w1.heap.size [] cmds (.slice none 0 0) (w1.alloc (.cells #[.pointer (some ⟨Z, 0, none⟩)] 53))) := ⟨⟨⟨[], own_nil _ _ _ _, Reps.none _ _⟩, HBUF.out.below (below_alloc (Below.refl _ w1) _), below_then HBEL.out HBEL.out.size (below_alloc (Below.refl _ w1) _), blk_new w1 _, OK.out⟩⟩
  generalize w1.alloc (.cells #[.pointer (some ⟨Z, 0, none⟩)] 53) = w2 at *
  generalize w1.heap.size = ZB at *
  clear HBUF HBEL
  go_loopw [4, 16] (fun v4 v16 wr => ∃ (done todo : List Cmd) (A4 : Option Addr) (c4 : Nat), v16 = .int .i64 done.length ∧ v4 = .slice A4 done.length c4 ∧ Aside0 (done ++ todo = cmds) ∧ Aside0 (ImplRel w Z ZB done todo v4 wr) ∧ done.length ≤ cmds.length) (fun _ v16 _ => cmds.length - (intOf v16).toNat)
  case atStart => exact ⟨[], cmds, none, 0, rfl, rfl, ⟨rfl⟩, H0, by simp⟩
  case round =>
    clear H0
    obtain ⟨done, todo, A4, c4, rfl, rfl, hcm, hrel, hdl⟩ := hrel
    cases todo with
    | nil =>
      have hdc : done = cmds := by rw [← hcm.out, List.append_nil]
      subst hdc
      have q : ¬ (done.length : Int) < (done.length : Int) := by omega
      go_wp2_with fail
      go_ret
      exact ⟨_, rfl, hrel.out.row, hrel.out.bel⟩
    | cons cm rest =>
      have hlt : done.length < cmds.length := by rw [← hcm.out]; simp
      obtain ⟨ad, hA, a0, a1⟩ := at_T40 HR.out (done.length : Int) (by omega) (by omega)
      have hrd : rd_T40 (cmds.map fun c => ⟨c.push, c.data⟩) (done.length : Int) = ⟨cm.push, cm.data⟩ := by
        rw [rd_T40, Int.toNat_natCast, ← hcm.out, List.getD_eq_getElem?_getD]
        simp
      rw [hrd] at a0 a1
      subst hA
      have a0 := pw_cell_below hrel.out.bel a0
      have a1 := pw_cell_below hrel.out.bel a1
      have p1 : (0 : Int) ≤ (done.length : Int) := by omega
      have p2 : (done.length : Int) < (cmds.length : Int) := by omega
      rw [Int.toNat_natCast] at a0 a1
      clear hrd
      go_upto_region 7 with fail
      have HM0 : Aside0 (ImplMid w Z ZB (wr.heap.size + 1) (.slice A4 done.length c4) done (runSt st0 done) ⟨false, false, false, false, ⟨#[]⟩, 0, 0⟩ ((wr.alloc (.cells #[.bool cm.push, .string cm.data] 40)).alloc (.cells #[.bool false, .bool false, .bool false, .bool false, .string ⟨#[]⟩, .int .u16 0, .int .i64 0] 43))) := ⟨by
        have hb : Below wr.heap.size wr ((wr.alloc (.cells #[.bool cm.push, .string cm.data] 40)).alloc (.cells #[.bool false, .bool false, .bool false, .bool false, .string ⟨#[]⟩, .int .u16 0, .int .i64 0] 43)) := below_alloc (below_alloc (Below.refl _ wr) _) _
        have h := hrel.out
        have e1 : (wr.alloc (.cells #[.bool cm.push, .string cm.data] 40)).heap.size = wr.heap.size + 1 := by simp
        refine ⟨h.row.below hb, fun e => ?_, h.buf.below hb, below_then h.bel h.bel.size hb, (hb.block ZB (ltB h.zb)).trans h.zb, ?_, by have := h.bel.size; omega⟩
        · obtain ⟨cells, ho, _⟩ := h.row.ex
          have := own_lt ho _ e
          omega
        · have := blk_new (wr.alloc (.cells #[.bool cm.push, .string cm.data] 40)) (.cells #[.bool false, .bool false, .bool false, .bool false, .string ⟨#[]⟩, .int .u16 0, .int .i64 0] 43)
          rwa [e1] at this⟩
      have HSB : Aside0 (((wr.alloc (.cells #[.bool cm.push, .string cm.data] 40)).alloc (.cells #[.bool false, .bool false, .bool false, .bool false, .string ⟨#[]⟩, .int .u16 0, .int .i64 0] 43)).heap[wr.heap.size]? = some (.cells [.bool cm.push, .string cm.data].toArray 40)) := ⟨blk_alloc (blk_new wr _) _⟩
      have HCO := Aside0.mk hrel.out.ok.1
      have HRO := Aside0.mk hrel.out.ok.2
      clear a0 a1 hrel
      generalize (wr.alloc (.cells #[.bool cm.push, .string cm.data] 40)).alloc (.cells #[.bool false, .bool false, .bool false, .bool false, .string ⟨#[]⟩, .int .u16 0, .int .i64 0] 43) = W2 at *
      have s0 : W2.cell? ⟨wr.heap.size, 0, none⟩ = some (.bool cm.push) := cellB HSB.out 0
      have s1 : W2.cell? ⟨wr.heap.size, 1, none⟩ = some (.string cm.data) := cellB HSB.out 1
      have zb : W2.cell? ⟨ZB, 0, none⟩ = some (.pointer (some ⟨Z, 0, none⟩)) := cellB HM0.out.zb 0
      generalize wr.heap.size = SB at *
      go_upto_if 21 with fail
      go_cut [] (fun wx => Aside0 (ImplMid w Z ZB (SB + 1) (.slice A4 done.length c4) done (stepSt (runSt st0 done) cm) (told0 (runSt st0 done) cm) wx))
      case first =>
        cases hp : cm.push with
        | true =>
          rw [hp] at s0
          have HP := Aside0.mk hp
          clear hp
          obtain ⟨hrec, hall⟩ := HCO.out.push HP.out
          have kb := fun W => print_bytes (P := Tryd.prog) 9 59 5 Tryd.underlying9 Tryd.underlying59 Tryd.underlying5 cm.data W
          have HREC := Aside0.mk hrec
          have HALL := Aside0.mk hall
          have HB3 : Aside0 (Below W2.heap.size W2 (Lib.bytesWorld W2 5 cm.data)) := ⟨bytes_below (Below.refl _ _) (Nat.le_refl _) 5 cm.data⟩
          have HM3 := Aside0.mk (HM0.out.below HB3.out)
          have hcall := zzpush_any Z w.heap.size W2.heap.size 0 (grownCap W2 cm.data.size 0 5) 0 (runSt st0 done) cm.gs (bytesOf cm.data) (Lib.bytesWorld W2 5 cm.data) HM3.out.buf (fun i hi => by
            obtain ⟨_, _, h3⟩ := bytes_reads W2 5 cm.data (by have := hrec.n1; rw [bytesOf_length] at this; omega)
            obtain ⟨ad, e, h4⟩ := h3 (by rw [bytesOf_length] at hi; omega)
            injection e with e
            subst e
            have := h4 i (by rw [bytesOf_length] at hi; exact hi)
            rwa [add_off] at this) ⟨_, _, Lib.bytesWorld_at_new W2 5 cm.data⟩ (by rw [bytesOf_length]; exact grownCap_ge _ _ _ _) hrec (HGL.out.below HM3.out.bel HGL.out.lt) HM3.out.bel.size HGL.out.lt hall HCO.out.s0 HCO.out.s1 (by have := HCO.out.cur; omega)
          rw [bytesOf_length] at hcall
          have HCALL := Aside0.mk hcall
          clear hrec hall hcall
          go_wp2_with fail
          refine HCALL.out.mono ?_
          rintro e w5 ⟨rfl, hbuf, hk⟩
          have HM5 := Aside0.mk (HM3.out.keepT hk hbuf)
          have t0 : w5.cell? ⟨SB + 1, 0, none⟩ = some (.bool false) := cellB HM5.out.tb 0
          have t1 : w5.cell? ⟨SB + 1, 1, none⟩ = some (.bool false) := cellB HM5.out.tb 1
          have t2 : w5.cell? ⟨SB + 1, 2, none⟩ = some (.bool false) := cellB HM5.out.tb 2
          have tf := fun j => frozB HM5.out.tb j
          clear hbuf hk kb HCALL HM3 HM0 HB3 HSB s0 s1 zb
          have HT0 : Aside0 (told0 (runSt st0 done) cm = ⟨true, againOf (runSt st0 done).cur cm.gs, false, false, ⟨#[]⟩, 0, 0⟩ ∧ stepSt (runSt st0 done) cm = cm.gs.foldl (stPut 0) (runSt st0 done)) := ⟨by unfold told0 stepTold; rw [if_pos HP.out], by unfold stepSt; rw [if_pos HP.out]⟩
          generalize againOf (runSt st0 done).cur cm.gs = AG at *
          go_wp2_with fail
          go_region
          all_goals (go_wp2_with fail; go_meet; rw [HT0.out.1, HT0.out.2])
          all_goals exact ⟨HM5.out.turn (World.grownBy.trans (World.grownBy.trans (World.grownBy.trans (grB w5 _ 0 _) (grB _ _ 1 _)) (grB _ _ 2 _)) (grDrew _ _)) (blk_setL (blk_setL (blk_setL HM5.out.tb 0 _) 1 _) 2 _)⟩
        | false =>
          rw [hp] at s0
          have HP := Aside0.mk hp
          cases hf : fullF (runSt st0 done) with
          | none =>
            have hno : ∀ f, lookF (runSt st0 done).cur (runSt st0 done).ms = some f → f.cov < (f.len : Int) := fun f hl => by
              unfold fullF at hf
              rw [hl] at hf
              simp only at hf
              split at hf
              · cases hf
              · omega
            have HCALL := Aside0.mk (zzpop_none Z w.heap.size (runSt st0 done) W2 HM0.out.buf (by have := HCO.out.cur; omega) hno)
            have HT0 : Aside0 (told0 (runSt st0 done) cm = ⟨false, false, false, false, ⟨#[]⟩, 0, 0⟩ ∧ stepSt (runSt st0 done) cm = runSt st0 done) := ⟨by unfold told0 stepTold; rw [hp, hf]; rfl, by unfold stepSt; rw [hp, hf]; rfl⟩
            clear hno hf hp
            go_wp2_with fail
            refine HCALL.out.mono ?_
            rintro e w5 ⟨rfl, hb⟩
            have HM5 := Aside0.mk (HM0.out.below hb)
            have t3 : w5.cell? ⟨SB + 1, 3, none⟩ = some (.bool false) := cellB HM5.out.tb 3
            have t4 : w5.cell? ⟨SB + 1, 4, none⟩ = some (.string ⟨#[]⟩) := cellB HM5.out.tb 4
            have t5 : w5.cell? ⟨SB + 1, 5, none⟩ = some (.int .u16 0) := cellB HM5.out.tb 5
            have tf := fun j => frozB HM5.out.tb j
            have hcv : ∀ W : World, (convert 59 9 (.slice none 0 0)).run Tryd.prog W = .ok (.string ⟨#[]⟩) W := fun W => by
              have h := own_string (P := Tryd.prog) (xs := []) Tryd.underlying59 Tryd.underlying5 Tryd.underlying9 (own_nil W 0 5 1)
              exact h
            clear hb HCALL HM0 HSB s0 s1 zb
            go_wp2_with fail
            go_region
            all_goals (go_wp2_with fail; go_meet; rw [HT0.out.1, HT0.out.2])
            all_goals exact ⟨HM5.out.turn (World.grownBy.trans (World.grownBy.trans (World.grownBy.trans (grB w5 _ 3 _) (grB _ _ 4 _)) (grB _ _ 5 _)) (grDrew _ _)) (blk_setL (blk_setL (blk_setL HM5.out.tb 3 _) 4 _) 5 _)⟩
          | some f =>
            have hpo := HCO.out.pop hp f hf
            have HCALL := Aside0.mk (zzpop_some Z w.heap.size (runSt st0 done) f _ _ _ W2 HM0.out.buf hpo HM0.out.bel.size)
            have HT0 : Aside0 (told0 (runSt st0 done) cm = ⟨false, false, false, true, outB f, f.ep, 0⟩ ∧ stepSt (runSt st0 done) cm = popSt (runSt st0 done) f) := ⟨by unfold told0 stepTold; rw [hp, hf]; rfl, by unfold stepSt; rw [hp, hf]; rfl⟩
            clear hpo hf hp
            go_wp2_with fail
            refine HCALL.out.mono ?_
            rintro e w5 ⟨v, rfl, ho, hb, hk⟩
            obtain ⟨g, cap, e2, _, _⟩ := ho.form (by simp [outF, hdr12])
            subst e2
            have hcv : ∀ W : World, W.heap[g]? = w5.heap[g]? → (convert 59 9 (.slice (some ⟨g, 0, none⟩) (outF f f.h0.toNat f.h1.toNat f.h2.toNat).length cap)).run Tryd.prog W = .ok (.string (outB f)) W := fun W hW => own_string Tryd.underlying59 Tryd.underlying5 Tryd.underlying9 (own_move (w1 := W) ho (fun k hk => by injection hk with hk; subst hk; exact hW))
            have HM5 := Aside0.mk (HM0.out.keepT hk hb)
            have t3 : w5.cell? ⟨SB + 1, 3, none⟩ = some (.bool false) := cellB HM5.out.tb 3
            have t4 : w5.cell? ⟨SB + 1, 4, none⟩ = some (.string ⟨#[]⟩) := cellB HM5.out.tb 4
            have t5 : w5.cell? ⟨SB + 1, 5, none⟩ = some (.int .u16 0) := cellB HM5.out.tb 5
            have tf := fun j => frozB HM5.out.tb j
            have hg5 : (w5.setCell ⟨SB + 1, 3, none⟩ (.bool true)).heap[g]? = w5.heap[g]? := Below.heap_setCell w5 ⟨SB + 1, 3, none⟩ (.bool true) g (fun e => by
              obtain ⟨cc, hcc⟩ := own_typed ho g rfl
              exact cellsNe hcc HM5.out.tb (by decide) e)
            have hcv1 := hcv w5.drew rfl
            have hcv2 := hcv (w5.setCell ⟨SB + 1, 3, none⟩ (.bool true)).drew hg5
            clear hg5
            clear hcv ho hb hk HCALL HM0 HSB s0 s1 zb
            generalize outB f = OB at *
            generalize (outF f f.h0.toNat f.h1.toNat f.h2.toNat).length = OL at *
            go_wp2_with fail
            go_region
            all_goals (go_wp2_with fail; go_meet; rw [HT0.out.1, HT0.out.2])
            all_goals exact ⟨HM5.out.turn (World.grownBy.trans (World.grownBy.trans (World.grownBy.trans (grB w5 _ 3 _) (grB _ _ 4 _)) (grB _ _ 5 _)) (grDrew _ _)) (blk_setL (blk_setL (blk_setL HM5.out.tb 3 _) 4 _) 5 _)⟩
      case rest =>
        have HM1 := hcut
        clear hcut HM0 HSB s0 s1 zb
        obtain ⟨M, xs, hx, hms⟩ := HM1.out.buf
        have HZS := Aside0.mk (zzsize_any Z (stepSt (runSt st0 done) cm).size wc (cellB hx.z 2))
        have zb : wc.cell? ⟨ZB, 0, none⟩ = some (.pointer (some ⟨Z, 0, none⟩)) := cellB HM1.out.zb 0
        clear hx hms
        go_wp2_with fail
        refine HZS.out.mono ?_
        rintro e w5 ⟨rfl, hb⟩
        have HM5 := Aside0.mk (HM1.out.below hb)
        have t6 : w5.cell? ⟨SB + 1, 6, none⟩ = some (.int .i64 0) := cellB HM5.out.tb 6
        have tf := fun j => frozB HM5.out.tb j
        clear hb HZS zb
        go_upto_region 13 with fail
        have HM6 : Aside0 (ImplMid w Z ZB (SB + 1) (.slice A4 done.length c4) done (stepSt (runSt st0 done) cm) (stepTold (runSt st0 done) cm) (w5.setCell ⟨SB + 1, 6, none⟩ (.int .i64 (stepSt (runSt st0 done) cm).size))) := ⟨HM5.out.turn (grB _ _ _ _) (by rw [told_size]; exact blk_setL HM5.out.tb 6 _)⟩
        clear t6 tf HM5 HM1
        generalize w5.setCell ⟨SB + 1, 6, none⟩ (.int .i64 (stepSt (runSt st0 done) cm).size) = w6 at *
        have t0 : w6.cell? ⟨SB + 1, 0, none⟩ = _ := cellB HM6.out.tb 0
        have t1 : w6.cell? ⟨SB + 1, 1, none⟩ = _ := cellB HM6.out.tb 1
        have t2 : w6.cell? ⟨SB + 1, 2, none⟩ = _ := cellB HM6.out.tb 2
        have t3 : w6.cell? ⟨SB + 1, 3, none⟩ = _ := cellB HM6.out.tb 3
        have t4 : w6.cell? ⟨SB + 1, 4, none⟩ = _ := cellB HM6.out.tb 4
        have t5 : w6.cell? ⟨SB + 1, 5, none⟩ = _ := cellB HM6.out.tb 5
        have t6 : w6.cell? ⟨SB + 1, 6, none⟩ = _ := cellB HM6.out.tb 6
        simp only [tc, List.getElem?_cons_zero, List.getElem?_cons_succ] at t0 t1 t2 t3 t4 t5 t6
        obtain ⟨TT, hTT⟩ : ∃ TT, TT = stepTold (runSt st0 done) cm := ⟨_, rfl⟩
        rw [← hTT] at t0 t1 t2 t3 t4 t5 t6 HM6
        have HTC : Aside0 (stepTold (runSt st0 done) cm = TT) := ⟨hTT.symm⟩
        clear hTT
        obtain ⟨cells, ho, hrep⟩ := HM6.out.row.ex
        rw [runTold_len] at ho
        have HO := Aside0.mk ho
        have HREP := Aside0.mk hrep
        clear ho hrep
        obtain ⟨i43, hi43, hz43⟩ := Option.map_eq_some_iff.1 info43
        simp only [Prod.mk.injEq] at hz43
        have HI := Aside0.mk hi43
        have HZ43 := Aside0.mk hz43
        clear hi43 hz43
        have HBN : Aside0 (Below w6.heap.size w6 (w6.alloc (.cells (tc TT).toArray 43))) := ⟨below_alloc (Below.refl _ w6) _⟩
        have HNB := Aside0.mk (blk_new w6 (.cells (tc TT).toArray 43))
        have HcO : Aside0 ((w6.alloc (.cells (tc TT).toArray 43)).ownsRow w.heap.size 43 7 (.slice A4 done.length c4) done.length cells) := ⟨own_move HO.out (fun k hk => HBN.out.block k (own_lt HO.out k hk))⟩
        have HcN : Aside0 (∀ j u, (tc TT)[j]? = some u → (w6.alloc (.cells (tc TT).toArray 43)).cell? ((⟨w6.heap.size, 0, none⟩ : Addr).add j) = some u) := ⟨fun j u hj => by rw [add_off, Nat.zero_add]; exact (cellB HNB.out j).trans hj⟩
        have Hc1 : Aside0 (∀ u ∈ tc TT, u.oneCell' = true) := ⟨by intro u hu; simp [tc] at hu; rcases hu with rfl | rfl | rfl | rfl | rfl | rfl | rfl <;> rfl⟩
        have Hc63 : Aside0 (done.length + 1 ≤ maxLen) := ⟨by simp [maxLen]; omega⟩
        have HcB : Aside0 ((done.length + 1) * 40 ≤ 140737488355328) := ⟨by omega⟩
        have HcS : Aside0 (w.heap.size ≤ (w6.alloc (.cells (tc TT).toArray 43)).heap.size) := ⟨Nat.le_trans HM6.out.bel.size HBN.out.size⟩
        go_upto_region 14 with ((with_reducible refine gate_builtin (b := .append) (xs := #[.tmp 54, .tmp 56]) rfl ?_); at_builtin; refine wpList_append_own_at _ rfl (.tmp 54) (.tmp 56) 32 rfl w.heap.size 43 i43 (.agg #[.bool false, .bool false, .bool false, .bool false, .string ⟨#[]⟩, .int .u16 0, .int .i64 0]) 7 40 Tryd.underlying32 HI.out HZ43.out.1 HZ43.out.2.1 HZ43.out.2.2 rfl (by decide) (.slice A4 done.length c4) done.length cells rfl HcO.out ⟨w6.heap.size, 0, none⟩ 1 1 (tc TT) rfl rfl HcN.out Hc1.out Hc63.out HcB.out HcS.out ?_; intro v7 w7 ho hg _ hat; have HO7 := Aside0.mk ho; have HG7 := Aside0.mk hg; clear ho hg hat)
        obtain ⟨A7, c7, hv7⟩ := own_slice HO7.out
        subst hv7
        have HNEW : Aside0 (ImplRel w Z ZB (done ++ [cm]) rest (.slice A7 (done.length + 1) c7) w7) := ⟨by
          have hm := HM6.out.below HBN.out
          have hlen : (runTold st0 (done ++ [cm])).length = done.length + 1 := by rw [runTold_len]; simp
          have hst : runSt st0 (done ++ [cm]) = stepSt (runSt st0 done) cm := by simp [runSt]
          have hrow : RowT w7 w.heap.size (.slice A7 (done.length + 1) c7) (runTold st0 (done ++ [cm])) := by
            refine ⟨⟨cells ++ tc TT, by rw [hlen]; exact HO7.out, ?_⟩⟩
            rw [runTold_snoc, HTC.out]
            exact HREP.out.snoc rfl rfl
          have hzb : w7.heap[ZB]? = (w6.alloc (.cells (tc TT).toArray 43)).heap[ZB]? ∧ BufAt w7 w.heap.size Z (stepSt (runSt st0 done) cm) := by
            cases hv : (Value.slice A4 done.length c4).ownBlock with
            | none =>
              have hg := HG7.out
              rw [hv] at hg
              have hb : Below (w6.alloc (.cells (tc TT).toArray 43)).heap.size (w6.alloc (.cells (tc TT).toArray 43)) w7 := ⟨hg.os, hg.tape, hg.output, hg.size, fun k hk => hg.block k hk (by simp)⟩
              exact ⟨hb.block ZB (ltB hm.zb), hm.buf.below hb⟩
            | some r =>
              have hg := HG7.out
              rw [hv] at hg
              obtain ⟨cc, hcc⟩ := own_typed HcO.out r hv
              exact ⟨hg.block ZB (ltB hm.zb) (fun e => by injection e with e; exact cellsNe hm.zb hcc (by decide) e), hm.buf.far hg hcc⟩
          have hbel : Below w.heap.size w w7 := by
            have hg := HG7.out
            refine ⟨hg.os.trans hm.bel.os, hg.tape.trans hm.bel.tape, hg.output.trans hm.bel.output, Nat.le_trans hm.bel.size hg.size, fun k hk => (hg.block k (Nat.lt_of_lt_of_le hk hm.bel.size) (fun e => ?_)).trans (hm.bel.block k hk)⟩
            have := own_base HcO.out k e.symm
            omega
          exact ⟨hrow, by rw [hst]; exact hzb.2, hbel, hzb.1.trans hm.zb, by rw [hst]; exact HRO.out⟩⟩
        clear t0 t1 t2 t3 t4 t5 t6 HM6 HO HREP HO7 HG7 HBN HNB HTC
        go_wp2_with fail
        go_roundw
        case rel =>
          exact ⟨done ++ [cm], rest, A7, c7, by rw [List.length_append]; go_num, by simp, ⟨by rw [List.append_assoc]; exact hcm.out⟩, by simpa using HNEW, by simp; omega⟩
        case measure => simp [intOf]; omega

end Go.Proofs.YtblmbbllfiigmaaDoor

namespace Go.Proofs.YtblmbbllfiigmaaDoor
open Go.RowKit Go.Proofs.YtblmbbllfiigmaaDoorW.PrintWords Go.Proofs.YtblmbbllfiigmaaDoorW.PrintLast Go.Proofs.YtblmbbllfiigmaaDoorW.PrintMore PAll

/-- The fragments of a record's bytes. -/
def parse : Nat → List Int → List Frag
  | 0, _ => []
  | k + 1, l => if l.length < 12 then [] else
    ⟨(l.getD 0 0).toNat, (Lib.beZ ((l.drop 1).take 3)).toNat, (Lib.beZ ((l.drop 4).take 2)).toNat, (Lib.beZ ((l.drop 6).take 3)).toNat, (l.drop 12).take (Lib.beZ ((l.drop 9).take 3)).toNat⟩ :: parse k (l.drop (12 + (Lib.beZ ((l.drop 9).take 3)).toNat))
theorem parse_enc : ∀ (gs : List Frag) (k : Nat), gs.length ≤ k → (∀ g ∈ gs, FitsF g) → parse k (gs.flatMap enc) = gs
  | [], k, _, _ => by cases k <;> simp [parse]
  | g :: gs, 0, h, _ => by simp at h
  | g :: gs, k + 1, h, hf => by
    have hg := hf g (by simp)
    rw [enc_all, parse, if_neg (by rw [List.length_append, enc_len]; omega), enc_typ, enc_msg _ _ hg, enc_seq _ _ hg, enc_off _ _ hg, enc_cnt _ _ hg, enc_dat]
    simp only [Int.toNat_natCast]
    rw [enc_rest, List.take_left, parse_enc gs k (by simpa using h) (fun x hx => hf x (by simp [hx]))]
/-- A step of a script as the theory sees it. -/
def cmdOf (x : S40) : Cmd := ⟨x.f0, x.f1, parse x.f1.size ((bytesOf x.f1).drop 13)⟩

theorem RowT.row {w : World} {base : Nat} {v : Value} {l : List S43} (h : RowT w base v l) : Kd.R k43 43 w base (fun _ => True) v l := by
  refine ⟨fun _ _ => trivial, ?_⟩
  obtain ⟨cells, ho, hr⟩ := h.ex
  have h1 : OwnRow (fun x cs => cs = tc x) 43 7 w base v l := ⟨cells, ho, hr⟩
  exact h1.imp_ (fun p c hc => by subst hc; exact k43_mkM _ _ _ p)

end Go.Proofs.YtblmbbllfiigmaaDoor

namespace Go.Proofs.YtblmbbllfiigmaaDoor.PAll
open Go.RowKit Go.Proofs.YtblmbbllfiigmaaDoorW.PrintWords Go.Proofs.YtblmbbllfiigmaaDoorW.PrintLast Go.Proofs.YtblmbbllfiigmaaDoorW.PrintMore

open Classical in
/-- What is told of such a script. -/
noncomputable def impl_Fragments.f (_ : Nat) (l : List S40) : Option (List S43) :=
  if l.length ≤ 1000000 ∧ RunOk st0 (l.map cmdOf) then some (runTold st0 (l.map cmdOf)) else none
theorem impl_Fragments.calls (k : Nat) (A0 : Option Addr) (c0 : Nat) (l0 : List S40) (r : List S43) (w : World) (hr0 : Kd.C k40 w A0 l0.length l0) (hc0 : l0.length ≤ c0) (h : impl_Fragments.f k l0 = some r) (hgl : GL w) :
    Calls Tryd.prog 13 #[.slice A0 l0.length c0] w fun e w' => ∃ v0_ : Value, e = .returned (v0_) ∧ Kd.R k43 43 w' w.heap.size (fun _ => True) v0_ r ∧ Below w.heap.size w w' := by
  unfold impl_Fragments.f at h
  split at h
  · rename_i hc
    obtain rfl := Option.some.inj h
    have e : (l0.map cmdOf).map (fun c => (⟨c.push, c.data⟩ : S40)) = l0 := by
      rw [List.map_map]
      conv => rhs; rw [← List.map_id l0]
      apply List.map_congr_left
      intro x _
      rfl
    have h2 := impl_any A0 c0 (l0.map cmdOf) w (by rw [e, List.length_map]; exact hr0) (by rw [List.length_map]; exact hc0) (by rw [List.length_map]; exact hc.1) hgl hc.2
    rw [List.length_map] at h2
    refine h2.mono ?_
    rintro e w' ⟨v, rfl, h3, h4⟩
    exact ⟨v, rfl, h3.row, h4⟩
  · cases h

end Go.Proofs.YtblmbbllfiigmaaDoor.PAll

namespace Go.Proofs.YtblmbbllfiigmaaDoor.PAll
open Go.RowKit Go.Proofs.YtblmbbllfiigmaaDoorW.PrintWords Go.Proofs.YtblmbbllfiigmaaDoorW.PrintLast Go.Proofs.YtblmbbllfiigmaaDoorW.PrintMore

theorem take_get {α : Type} (l : List α) (j : Nat) (x : α) (h : l[j]? = some x) : l.take (j + 1) = l.take j ++ [x] := by
  rw [List.take_add_one, h]
  rfl

theorem meas (a j : Nat) (n : Int) (h : j < a) (e : n = ((j + 1 : Nat) : Int)) : a - (intOf (.int .i64 n)).toNat < a - (intOf (.int .i64 (j : Int))).toNat := by
  subst e
  show a - ((j + 1 : Nat) : Int).toNat < a - ((j : Nat) : Int).toNat
  rw [Int.toNat_natCast, Int.toNat_natCast]
  omega

end Go.Proofs.YtblmbbllfiigmaaDoor.PAll
