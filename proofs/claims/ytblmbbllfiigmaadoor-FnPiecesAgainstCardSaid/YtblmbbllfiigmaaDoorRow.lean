/-
  A message's fragments as they lie in memory: a row of pairs, an offset and a slice of bytes; what reads it, walked.
-/
import Derived.Test.YtblmbbllfiigmaaDoorRec
namespace Go.Proofs.YtblmbbllfiigmaaDoor
open Go.RowKit Go.Proofs.YtblmbbllfiigmaaDoorW.PrintWords Go.Proofs.YtblmbbllfiigmaaDoorW.PrintLast Go.Proofs.YtblmbbllfiigmaaDoorW.PrintMore

/-- A value is a slice of these bytes. -/
def DatAt (w : World) (v : Value) (l : List Int) : Prop :=
  ∃ A c, v = .slice A l.length c ∧ l.length ≤ c ∧ (0 < l.length → ∃ b o, A = some ⟨b, o, none⟩ ∧ BytAt w b o l ∧ ∃ cells m, w.heap[b]? = some (.cells cells 5 m))
/-- All blocks of bytes are as they were. -/
def Keep5 (w w1 : World) : Prop := ∀ (b : Nat) (cells : Array Value) (m : Nat × Nat), w.heap[b]? = some (.cells cells 5 m) → w1.heap[b]? = w.heap[b]?
theorem Keep5.below {w w1 : World} (h : Below w.heap.size w w1) : Keep5 w w1 := fun b _ _ hb => h.block b (ltB hb)
theorem Keep5.grown {w w1 : World} {g : Option Nat} (h : w.grownBy w1 g) (hg : ∀ b cells m, g = some b → w.heap[b]? ≠ some (.cells cells 5 m)) : Keep5 w w1 := fun b cells m hb => h.block b (ltB hb) (fun e => hg b cells m e.symm hb)
theorem DatAt.keep {w w1 : World} {v : Value} {l : List Int} (h : DatAt w v l) (hk : Keep5 w w1) : DatAt w1 v l := by
  obtain ⟨A, c, e, hc, hp⟩ := h
  refine ⟨A, c, e, hc, fun h0 => ?_⟩
  obtain ⟨b, o, e1, h1, cells, m, h2⟩ := hp h0
  have := hk b cells m h2
  exact ⟨b, o, e1, h1.move this, cells, m, this.trans h2⟩
theorem DatAt.below {w w1 : World} {v : Value} {l : List Int} (h : DatAt w v l) (hk : Below w.heap.size w w1) : DatAt w1 v l := h.keep (Keep5.below hk)

/-- The cells of one pair. -/
def PairAt (w : World) (p : Int × List Int) (cs : List Value) : Prop := ∃ v, cs = [.int .u32 p.1, v] ∧ DatAt w v p.2
theorem PairAt.keep {w w1 : World} {p : Int × List Int} {cs : List Value} (h : PairAt w p cs) (hk : Keep5 w w1) : PairAt w1 p cs := by
  obtain ⟨v, e, hd⟩ := h
  exact ⟨v, e, hd.keep hk⟩

/-- A row of pairs that the call owns. -/
structure RowAt (w : World) (base : Nat) (v : Value) (ps : List (Int × List Int)) : Prop where
  ex : ∃ cells, w.ownsRow base 107 2 v ps.length cells ∧ Reps (PairAt w) 2 ps cells

theorem RowAt.nil (w : World) (base : Nat) : RowAt w base (.slice none 0 0) [] := ⟨⟨[], own_nil _ _ _ _, Reps.none _ _⟩⟩
theorem RowAt.move {w w1 : World} {base : Nat} {v : Value} {ps : List (Int × List Int)} (h : RowAt w base v ps) (hm : ∀ k, v.ownBlock = some k → w1.heap[k]? = w.heap[k]?) (hk : Keep5 w w1) : RowAt w1 base v ps := by
  obtain ⟨cells, ho, hr⟩ := h.ex
  exact ⟨⟨cells, own_move ho hm, hr.imp_ (fun _ _ hp => hp.keep hk)⟩⟩
theorem RowAt.lt {w : World} {base : Nat} {v : Value} {ps : List (Int × List Int)} (h : RowAt w base v ps) (k : Nat) (hk : v.ownBlock = some k) : k < w.heap.size := by
  obtain ⟨cells, ho, hr⟩ := h.ex
  exact own_lt ho k hk
theorem RowAt.below {w w1 : World} {base : Nat} {v : Value} {ps : List (Int × List Int)} (h : RowAt w base v ps) (hb : Below w.heap.size w w1) : RowAt w1 base v ps :=
  h.move (fun k hk => hb.block k (h.lt k hk)) (Keep5.below hb)
theorem RowAt.slice {w : World} {base : Nat} {v : Value} {ps : List (Int × List Int)} (h : RowAt w base v ps) : ∃ A c, v = .slice A ps.length c := by
  obtain ⟨cells, ho, hr⟩ := h.ex
  exact own_slice ho

/-- What one pair reads as. -/
theorem RowAt.get {w : World} {base : Nat} {v : Value} {ps : List (Int × List Int)} (h : RowAt w base v ps) (i : Nat) (p : Int × List Int) (hp : ps[i]? = some p) :
    ∃ g cap A c, v = .slice (some ⟨g, 0, none⟩) ps.length cap ∧ w.cell? ⟨g, i * 2, none⟩ = some (.int .u32 p.1) ∧ w.cell? ⟨g, i * 2 + 1, none⟩ = some (.slice A p.2.length c) ∧ DatAt w (.slice A p.2.length c) p.2 := by
  obtain ⟨cells, ho, hr⟩ := h.ex
  have hi : i < ps.length := (List.getElem?_eq_some_iff.1 hp).1
  obtain ⟨A, c0, e, hrow⟩ := own_reads_row ho hr rfl
  obtain ⟨g, cap, e2, _, _⟩ := ho.form (by omega)
  subst e2
  injection e with e3 _ e4
  subst e3
  obtain ⟨ad, e5, hc⟩ := hrow.2.2 (by omega)
  injection e5 with e5
  subst e5
  obtain ⟨cs, hs, ⟨u, ecs, hd⟩, hcell⟩ := hc i p hp
  obtain ⟨A1, c1, eu, hc1, hp1⟩ := hd
  subst eu
  subst ecs
  refine ⟨g, cap, A1, c1, rfl, ?_, ?_, A1, c1, rfl, hc1, hp1⟩
  · have := hcell 0 _ rfl
    rwa [add_plain] at this
  · have := hcell 1 _ rfl
    rwa [add_plain] at this

set_option maxRecDepth 100000 in
set_option maxHeartbeats 1000000 in
theorem end_any (off : Int) (A : Option Addr) (n c : Nat) (w : World) (h0 : 0 ≤ off) (h1 : off + n < 4294967296) :
    Calls Tryd.prog 43 #[.agg #[.int .u32 off, .slice A n c]] w fun e w' => e = .returned (.int .u32 (off + n)) ∧ Below w.heap.size w w' := by
  have hw1 : IntKind.u32.wrap (n : Int) = (n : Int) := by rw [IntKind.wrap_u32]; omega
  have hw2 : IntKind.u32.wrap (off + (n : Int)) = off + (n : Int) := by rw [IntKind.wrap_u32]; omega
  go_enter Tryd.func43, Tryd.ntmps43
  go_wp2
  go_ret
  exact ⟨rfl, below_alloc (Below.refl _ w) _⟩

/-- The closure that sort.Search asks. -/
theorem geq_any (F B1 B2 : Nat) (off : Int) (cov : Value) (rest : List Value) (v : Value) (base : Nat) (ps : List (Int × List Int)) (i : Nat) (p : Int × List Int) (w : World) (hp : ps[i]? = some p) (hr : RowAt w base v ps)
    (hF : w.heap[F]? = some (.cells (v :: cov :: rest).toArray 101)) (h1 : w.heap[B1]? = some (.cells [.pointer (some ⟨F, 0, none⟩)].toArray 97)) (h2 : w.heap[B2]? = some (.cells [.int .u32 off].toArray 94)) :
    Calls Tryd.prog 51 #[.int .i64 i, .pointer (some ⟨B1, 0, none⟩), .pointer (some ⟨B2, 0, none⟩)] w fun e w' => e = .returned (.bool (decide (off ≤ p.1))) ∧ ∃ q, w' = w.drewN q := by
  obtain ⟨g, cap, A, c, rfl, c1, _, _⟩ := hr.get i p hp
  have k0 : w.cell? ⟨F, 0, none⟩ = some (.slice (some ⟨g, 0, none⟩) ps.length cap) := cellB hF 0
  have k1 : w.cell? ⟨B1, 0, none⟩ = some (.pointer (some ⟨F, 0, none⟩)) := cellB h1 0
  have k2 : w.cell? ⟨B2, 0, none⟩ = some (.int .u32 off) := cellB h2 0
  have hi : (i : Int) < (ps.length : Int) := by have := (List.getElem?_eq_some_iff.1 hp).1; omega
  have hi0 : (0 : Int) ≤ (i : Int) := by omega
  clear hp hr hF h1 h2
  go_enter Tryd.func51, Tryd.ntmps51
  go_wp2_with fail
  go_quiet (fail)
  go_wp2
  go_ret
  exact ⟨rfl, _, rfl⟩

end Go.Proofs.YtblmbbllfiigmaaDoor
