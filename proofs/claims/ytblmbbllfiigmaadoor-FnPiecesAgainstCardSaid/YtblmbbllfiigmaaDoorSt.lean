/-
  A buffer of fragments as a plain thing, and as it lies in memory.
-/
import Derived.Test.YtblmbbllfiigmaaDoorAddN
import Derived.Test.YtblmbbllfiigmaaDoorMaps
import Derived.Test.YtblmbbllfiigmaaDoorMarsh
namespace Go.Proofs.YtblmbbllfiigmaaDoor
open Go.RowKit Go.Proofs.YtblmbbllfiigmaaDoorW.PrintWords Go.Proofs.YtblmbbllfiigmaaDoorW.PrintLast Go.Proofs.YtblmbbllfiigmaaDoorW.PrintMore

/-- A fragment of a message. -/
structure Frag where
  typ : Nat
  len : Nat
  seq : Nat
  off : Nat
  dat : List Int
/-- Its bytes. -/
def enc (g : Frag) : List Int := hdr12 g.typ g.len g.seq g.off g.dat.length ++ g.dat
/-- Its numbers fit. -/
structure FitsF (g : Frag) : Prop where
  typ : g.typ < 256
  len : g.len < 16777216
  seq : g.seq < 65536
  fit : g.off + g.dat.length ≤ g.len

theorem enc_len (g : Frag) : (enc g).length = 12 + g.dat.length := by simp [enc, hdr12]; omega
theorem enc_typ (g : Frag) (r : List Int) : (enc g ++ r).getD 0 0 = g.typ := rfl
theorem enc_msg (g : Frag) (r : List Int) (h : FitsF g) : Lib.beZ (((enc g ++ r).drop 1).take 3) = g.len := by
  have h1 := h.len
  simp [enc, hdr12, Lib.beZ, Lib.beFromZ]
  omega
theorem enc_seq (g : Frag) (r : List Int) (h : FitsF g) : Lib.beZ (((enc g ++ r).drop 4).take 2) = g.seq := by
  have h1 := h.seq
  simp [enc, hdr12, Lib.beZ, Lib.beFromZ]
  omega
theorem enc_off (g : Frag) (r : List Int) (h : FitsF g) : Lib.beZ (((enc g ++ r).drop 6).take 3) = g.off := by
  have h1 := h.len
  have h2 := h.fit
  simp [enc, hdr12, Lib.beZ, Lib.beFromZ]
  omega
theorem enc_cnt (g : Frag) (r : List Int) (h : FitsF g) : Lib.beZ (((enc g ++ r).drop 9).take 3) = g.dat.length := by
  have h1 := h.len
  have h2 := h.fit
  simp [enc, hdr12, Lib.beZ, Lib.beFromZ]
  omega
theorem enc_dat (g : Frag) (r : List Int) : (enc g ++ r).drop 12 = g.dat ++ r := by simp [enc, hdr12]
theorem enc_rest (g : Frag) (r : List Int) : (enc g ++ r).drop (12 + g.dat.length) = r := by
  rw [← enc_len, List.drop_left]
theorem enc_all (gs : List Frag) (g : Frag) : (g :: gs).flatMap enc = enc g ++ gs.flatMap enc := by simp

/-- What is known of one message that is being put together. -/
structure Fr where
  ps : List (Int × List Int)
  cov : Int
  typ : Nat
  len : Nat
  h0 : Int
  h1 : Int
  h2 : Int
  h3 : Int
  h4 : Int
  ep : Int
  has : Bool

def frRest (f : Fr) : List Value := [.int .u8 f.typ, .int .u32 f.len, .int .u8 f.h0, .int .u32 f.h1, .int .u16 f.h2, .int .u32 f.h3, .int .u32 f.h4, .int .u16 f.ep, .bool f.has]
def frCells (v : Value) (f : Fr) : List Value := v :: .int .u32 f.cov :: frRest f

/-- A new message, ahead of its first fragment. -/
def frNew (g : Frag) : Fr := ⟨[], 0, g.typ, g.len, 0, 0, 0, 0, 0, 0, false⟩

/-- A fragment is there already. -/
def there (f : Fr) (g : Frag) : Bool := coversB f.ps (idxOf f.ps g.off) g.off g.dat.length
/-- The pairs behind a fragment. -/
def psOf (f : Fr) (g : Frag) : List (Int × List Int) := if there f g then f.ps else insP f.ps (idxOf f.ps g.off) (g.off, g.dat)
def covOf (f : Fr) (g : Frag) : Int := if there f g then f.cov else advC f.cov ((insP f.ps (idxOf f.ps g.off) (g.off, g.dat)).drop (idxOf f.ps g.off))
/-- The message behind a fragment. -/
def frPut (ep : Int) (f : Fr) (g : Frag) : Fr :=
  if g.off = 0 ∧ f.has = false then ⟨psOf f g, covOf f g, f.typ, f.len, g.typ, g.len, g.seq, g.off, g.dat.length, ep, true⟩
  else { f with ps := psOf f g, cov := covOf f g }
def newC (f : Fr) (g : Frag) : Int := if there f g then 0 else 1
def newB (f : Fr) (g : Frag) : Int := if there f g then 0 else g.dat.length

/-- A buffer. -/
structure St where
  cur : Nat
  size : Int
  count : Int
  ms : List (Nat × Fr)

def lookF (n : Nat) (l : List (Nat × Fr)) : Option Fr := (l.find? fun p => p.1 == n).map (·.2)
def setF (n : Nat) (f : Fr) (l : List (Nat × Fr)) : List (Nat × Fr) := l.map fun p => if p.1 = n then (n, f) else p

/-- A buffer behind a fragment. -/
def stPut (ep : Int) (s : St) (g : Frag) : St :=
  if g.seq < s.cur then s else
  match lookF g.seq s.ms with
  | some f => ⟨s.cur, s.size + newB f g, s.count + newC f g, setF g.seq (frPut ep f g) s.ms⟩
  | none => ⟨s.cur, s.size + newB (frNew g) g, s.count + newC (frNew g) g, s.ms ++ [(g.seq, frPut ep (frNew g) g)]⟩

/-- The message is one in which a fragment can be laid that the contract of add speaks of. -/
structure OkF (f : Fr) (g : Frag) : Prop where
  typ : f.typ = g.typ
  len : f.len = g.len
  n : f.ps.length < 1000000
  small : Small f.ps
  sorted : ∀ a b, a ≤ b → b < f.ps.length → offAt f.ps a ≤ offAt f.ps b
  c0 : 0 ≤ f.cov
  c1 : f.cov < 4294967296
  keep : there f g = false → idxOf f.ps g.off < f.ps.length → (g.off : Int) + (g.dat.length : Int) < endAt f.ps (idxOf f.ps g.off)

theorem okF_new (g : Frag) : OkF (frNew g) g := by
  refine ⟨rfl, rfl, by simp [frNew], ?_, ?_, by simp [frNew], by simp [frNew], ?_⟩
  · intro p hp; cases hp
  · intro a b _ hb; simp [frNew] at hb
  · intro _ h; simp [frNew] at h

/-- A fragment that push takes as the contract says. -/
structure OkS (s : St) (g : Frag) : Prop where
  fits : FitsF g
  go : ¬ g.seq < s.cur → (∀ f, lookF g.seq s.ms = some f → OkF f g) ∧ 0 ≤ s.count ∧ s.count ≤ 999 ∧ 0 ≤ s.size ∧ s.size ≤ 1000000
def AllOk (ep : Int) : St → List Frag → Prop
  | _, [] => True
  | s, g :: gs => OkS s g ∧ AllOk ep (stPut ep s g) gs

/-- One message as it lies in memory. -/
structure Sl where
  num : Nat
  F : Nat
  v : Value
  fr : Fr

def keys (xs : List Sl) : List (Int × Value) := xs.map fun x => ((x.num : Int), .pointer (some ⟨x.F, 0, none⟩))
def sts (xs : List Sl) : List (Nat × Fr) := xs.map fun x => (x.num, x.fr)

structure BufX (w : World) (base Z M : Nat) (xs : List Sl) (cur : Nat) (size count : Int) : Prop where
  z : w.heap[Z]? = some (.cells [.map (some M), .int .u16 cur, .int .i64 size, .int .i64 count].toArray 86)
  m : HasMap .u16 w M (keys xs)
  fr : ∀ x ∈ xs, base ≤ x.F ∧ w.heap[x.F]? = some (.cells (frCells x.v x.fr).toArray 101) ∧ RowAt w base x.v x.fr.ps
  sep : xs.Pairwise fun x y => x.F ≠ y.F ∧ ∀ b, x.v.ownBlock = some b → y.v.ownBlock ≠ some b
  bz : base ≤ Z
  bm : base ≤ M

def BufAt (w : World) (base Z : Nat) (s : St) : Prop := ∃ M xs, BufX w base Z M xs s.cur s.size s.count ∧ sts xs = s.ms

/-- Blocks of other kinds, and all that was there at the beginning, are as they were. -/
structure KeepT (base : Nat) (w w' : World) : Prop where
  below : Below base w w'
  kind : ∀ (k : Nat) (cells : Array Value) (t : TypeId) (m : Nat × Nat), w.heap[k]? = some (.cells cells t m) → t ≠ 86 → t ≠ 101 → t ≠ 107 → w'.heap[k]? = w.heap[k]?
theorem KeepT.trans {base : Nat} {a b c : World} (h : KeepT base a b) (k : KeepT base b c) : KeepT base a c :=
  ⟨h.below.trans k.below, fun i cells t m hi h1 h2 h3 => by
    have e := h.kind i cells t m hi h1 h2 h3
    exact (k.kind i cells t m (e.trans hi) h1 h2 h3).trans e⟩
theorem KeepT.of_below {base : Nat} {w w' : World} (hb : base ≤ w.heap.size) (h : Below w.heap.size w w') : KeepT base w w' :=
  ⟨h.mono hb, fun k _ _ _ hk _ _ _ => h.block k (ltB hk)⟩

theorem lookF_map (n : Nat) (xs : List Sl) : lookF n (sts xs) = (xs.find? fun x => x.num == n).map (·.fr) := by
  unfold lookF sts
  induction xs with
  | nil => rfl
  | cons x xs ih =>
    simp only [List.map_cons, List.find?_cons]
    by_cases h : x.num = n
    · simp [h]
    · have : (x.num == n) = false := by simpa using h
      simp only [this]
      exact ih
theorem look_keys (n : Nat) (xs : List Sl) : look (n : Int) (keys xs) = (xs.find? fun x => x.num == n).map fun x => .pointer (some ⟨x.F, 0, none⟩) := by
  unfold look keys
  induction xs with
  | nil => rfl
  | cons x xs ih =>
    simp only [List.map_cons, List.find?_cons]
    by_cases h : x.num = n
    · simp [h]
    · have h1 : (x.num == n) = false := by simpa using h
      have h2 : ((x.num : Int) == (n : Int)) = false := by simp; omega
      simp only [h1, h2]
      exact ih

theorem BufX.below {w w' : World} {base Z M : Nat} {xs : List Sl} {cur : Nat} {size count : Int} (h : BufX w base Z M xs cur size count) (hb : Below w.heap.size w w') : BufX w' base Z M xs cur size count :=
  ⟨(hb.block Z (ltB h.z)).trans h.z, h.m.move (hb.block M h.m.lt), fun x hx => ⟨(h.fr x hx).1, (hb.block _ (ltB (h.fr x hx).2.1)).trans (h.fr x hx).2.1, (h.fr x hx).2.2.below hb⟩, h.sep, h.bz, h.bm⟩
theorem BufAt.below {w w' : World} {base Z : Nat} {s : St} (h : BufAt w base Z s) (hb : Below w.heap.size w w') : BufAt w' base Z s := by
  obtain ⟨M, xs, h1, h2⟩ := h
  exact ⟨M, xs, h1.below hb, h2⟩

/-- From one world to a later one nothing but four blocks has turned. -/
structure Near (w w' : World) (Z F M : Nat) (vo : Option Nat) : Prop where
  os : w'.os = w.os
  tape : w'.tape = w.tape
  output : w'.output = w.output
  size : w.heap.size ≤ w'.heap.size
  block : ∀ k, k < w.heap.size → k ≠ Z → k ≠ F → k ≠ M → some k ≠ vo → w'.heap[k]? = w.heap[k]?
theorem Near.of_below {w w' : World} {Z F M : Nat} {vo : Option Nat} (h : Below w.heap.size w w') : Near w w' Z F M vo := ⟨h.os, h.tape, h.output, h.size, fun k hk _ _ _ _ => h.block k hk⟩
theorem Near.trans {a b c : World} {Z F M : Nat} {vo : Option Nat} (h : Near a b Z F M vo) (k : Near b c Z F M vo) : Near a c Z F M vo :=
  ⟨k.os.trans h.os, k.tape.trans h.tape, k.output.trans h.output, Nat.le_trans h.size k.size, fun i hi h1 h2 h3 h4 => (k.block i (Nat.lt_of_lt_of_le hi h.size) h1 h2 h3 h4).trans (h.block i hi h1 h2 h3 h4)⟩
theorem Near.of_grown {w w' : World} {Z F M : Nat} {vo : Option Nat} {r : Nat} (h : w.grownBy w' (some r)) (hr : r = Z ∨ r = F ∨ r = M ∨ some r = vo) : Near w w' Z F M vo :=
  ⟨h.os, h.tape, h.output, h.size, fun k hk h1 h2 h3 h4 => h.block k hk (fun e => by
    injection e with e
    subst e
    rcases hr with rfl | rfl | rfl | e
    · exact h1 rfl
    · exact h2 rfl
    · exact h3 rfl
    · exact h4 e)⟩

theorem cellsNe {w : World} {a b : Nat} {l1 l2 : Array Value} {t1 t2 : TypeId} (h1 : w.heap[a]? = some (.cells l1 t1)) (h2 : w.heap[b]? = some (.cells l2 t2)) (hne : t1 ≠ t2) : a ≠ b := by
  rintro rfl
  rw [h1] at h2
  injection h2 with h2
  injection h2 with _ h3
  exact hne h3
theorem mapNe {w : World} {B b : Nat} {kd : IntKind} {l : List (Int × Value)} {l2 : Array Value} {t : TypeId} (h1 : HasMap kd w B l) (h2 : w.heap[b]? = some (.cells l2 t)) : b ≠ B := by
  rintro rfl
  obtain ⟨es, cl, h, _⟩ := h1.ex
  rw [h] at h2
  cases h2
theorem RowAt.own {w : World} {base : Nat} {v : Value} {ps : List (Int × List Int)} (h : RowAt w base v ps) (k : Nat) (hk : v.ownBlock = some k) : base ≤ k ∧ k < w.heap.size ∧ ∃ c, w.heap[k]? = some (.cells c 107) := by
  obtain ⟨cells, ho, _⟩ := h.ex
  exact ⟨own_base ho k hk, own_lt ho k hk, own_typed ho k hk⟩

theorem Near.keep5 {w w' : World} {Z F M : Nat} {vo : Option Nat} (h : Near w w' Z F M vo) {lz : Array Value} (hz : w.heap[Z]? = some (.cells lz 86)) {l : List (Int × Value)} (hm : HasMap .u16 w M l)
    (hF : w.heap.size ≤ F ∨ ∃ l, w.heap[F]? = some (.cells l 101)) (hvo : ∀ b, vo = some b → ∃ c, w.heap[b]? = some (.cells c 107)) : Keep5 w w' := fun b cells m hb => by
  refine h.block b (ltB hb) ?_ ?_ ?_ ?_
  · rintro rfl; rw [hz] at hb; injection hb with hb; injection hb with _ h2; exact absurd h2 (by decide)
  · rintro rfl
    rcases hF with hF | ⟨l, hF⟩
    · have := ltB hb; omega
    · rw [hF] at hb; injection hb with hb; injection hb with _ h2; exact absurd h2 (by decide)
  · rintro rfl
    obtain ⟨es, cl, h1, _⟩ := hm.ex
    rw [h1] at hb
    cases hb
  · intro e
    obtain ⟨c, hc⟩ := hvo b e.symm
    rw [hc] at hb; injection hb with hb; injection hb with _ h2; exact absurd h2 (by decide)

theorem KeepT.of_near {base : Nat} {w w' : World} {Z F M : Nat} {vo : Option Nat} (h : Near w w' Z F M vo) (hb : base ≤ w.heap.size) {lz : Array Value} (hz : w.heap[Z]? = some (.cells lz 86)) (bz : base ≤ Z) {l : List (Int × Value)} (hm : HasMap .u16 w M l) (bm : base ≤ M)
    (hF : w.heap.size ≤ F ∨ ∃ l, w.heap[F]? = some (.cells l 101)) (bF : base ≤ F) (hvo : ∀ b, vo = some b → base ≤ b ∧ ∃ c, w.heap[b]? = some (.cells c 107)) : KeepT base w w' := by
  refine ⟨⟨h.os, h.tape, h.output, h.size, fun k hk => h.block k (by omega) (by omega) (by omega) (by omega) (fun e => by have := (hvo k e.symm).1; omega)⟩, fun k cells t m hc h1 h2 h3 => h.block k (ltB hc) ?_ ?_ ?_ ?_⟩
  · rintro rfl; rw [hz] at hc; injection hc with hc; injection hc with _ e; exact h1 e.symm
  · rintro rfl
    rcases hF with hF | ⟨l, hF⟩
    · have := ltB hc; omega
    · rw [hF] at hc; injection hc with hc; injection hc with _ e; exact h2 e.symm
  · rintro rfl
    obtain ⟨es, cl, e1, _⟩ := hm.ex
    rw [e1] at hc
    cases hc
  · intro e
    obtain ⟨_, c, e1⟩ := hvo k e.symm
    rw [e1] at hc; injection hc with hc; injection hc with _ e; exact h3 e.symm

/-- The messages that a step does not speak of. -/
theorem BufX.other {w w' : World} {base Z M : Nat} {xs : List Sl} {cur : Nat} {size count : Int} (h : BufX w base Z M xs cur size count) {F : Nat} {vo : Option Nat} (hn : Near w w' Z F M vo) (hk : Keep5 w w')
    (hvo : ∀ b, vo = some b → ∃ c, w.heap[b]? = some (.cells c 107)) {y : Sl} (hy : y ∈ xs) (h1 : y.F ≠ F) (h2 : ∀ b, y.v.ownBlock = some b → vo ≠ some b) (hF : ∀ b, y.v.ownBlock = some b → b ≠ F) :
    base ≤ y.F ∧ w'.heap[y.F]? = some (.cells (frCells y.v y.fr).toArray 101) ∧ RowAt w' base y.v y.fr.ps := by
  obtain ⟨a, b, c⟩ := h.fr y hy
  refine ⟨a, (hn.block y.F (ltB b) (cellsNe b h.z (by decide)) h1 (mapNe h.m b) (fun e => ?_)).trans b, c.move (fun k hk => ?_) hk⟩
  · obtain ⟨c1, hc1⟩ := hvo _ e.symm
    exact cellsNe b hc1 (by decide) rfl
  · obtain ⟨_, hlt, c1, hc1⟩ := c.own k hk
    exact hn.block k hlt (cellsNe hc1 h.z (by decide)) (hF k hk) (mapNe h.m hc1) (fun e => h2 k hk e.symm)

theorem BufX.put {w w' : World} {base Z M : Nat} {a b : List Sl} {x : Sl} {cur : Nat} {size count size' count' : Int} (h : BufX w base Z M (a ++ x :: b) cur size count) (hn : Near w w' Z x.F M x.v.ownBlock)
    {v' : Value} {fr' : Fr} (hz : w'.heap[Z]? = some (.cells [.map (some M), .int .u16 cur, .int .i64 size', .int .i64 count'].toArray 86)) (hm : HasMap .u16 w' M (keys (a ++ x :: b))) (hF : w'.heap[x.F]? = some (.cells (frCells v' fr').toArray 101)) (hr : RowAt w' base v' fr'.ps)
    (ho : v'.ownBlock = x.v.ownBlock ∨ ∃ b, v'.ownBlock = some b ∧ w.heap.size ≤ b) : BufX w' base Z M (a ++ ⟨x.num, x.F, v', fr'⟩ :: b) cur size' count' := by
  have hx := h.fr x (by simp)
  have hvo : ∀ b, x.v.ownBlock = some b → ∃ c, w.heap[b]? = some (.cells c 107) := fun b hb => (hx.2.2.own b hb).2.2
  have hk : Keep5 w w' := hn.keep5 h.z h.m (Or.inr ⟨_, hx.2.1⟩) hvo
  obtain ⟨s1, s2, s3⟩ := List.pairwise_append.1 h.sep
  obtain ⟨s4, s5⟩ := List.pairwise_cons.1 s2
  have own : ∀ y ∈ a ++ x :: b, ∀ k, y.v.ownBlock = some k → k < w.heap.size ∧ ∃ c, w.heap[k]? = some (.cells c 107) := fun y hy k hk => ⟨((h.fr y hy).2.2.own k hk).2.1, ((h.fr y hy).2.2.own k hk).2.2⟩
  have hne : ∀ y ∈ a ++ x :: b, ∀ k, y.v.ownBlock = some k → k ≠ x.F := fun y hy k hk => by
    obtain ⟨_, c, hc⟩ := own y hy k hk
    exact (cellsNe hx.2.1 hc (by decide)).symm
  have fresh : ∀ y ∈ a ++ x :: b, (∀ k, x.v.ownBlock = some k → y.v.ownBlock ≠ some k) → ∀ k, v'.ownBlock = some k → y.v.ownBlock ≠ some k := fun y hy hs k hk => by
    rcases ho with e | ⟨c, e, hc⟩
    · exact hs k (e.symm.trans hk)
    · intro e2
      have := (own y hy k e2).1
      rw [e] at hk
      injection hk with hk
      omega
  refine ⟨hz, ?_, ?_, ?_, h.bz, h.bm⟩
  · have : keys (a ++ ⟨x.num, x.F, v', fr'⟩ :: b) = keys (a ++ x :: b) := by simp [keys]
    rw [this]; exact hm
  · intro y hy
    rcases List.mem_append.1 hy with hy | hy
    · have hs := s3 y hy x (by simp)
      exact h.other hn hk hvo (by simp [hy]) hs.1 (fun b hb e => hs.2 b hb e) (hne y (by simp [hy]))
    · rcases List.mem_cons.1 hy with rfl | hy
      · exact ⟨hx.1, hF, hr⟩
      · have hs := s4 y hy
        exact h.other hn hk hvo (by simp [hy]) (fun e => hs.1 e.symm) (fun b hb e => hs.2 b e hb) (hne y (by simp [hy]))
  · refine List.pairwise_append.2 ⟨s1, List.pairwise_cons.2 ⟨fun y hy => ⟨(s4 y hy).1, fresh y (by simp [hy]) (fun k hk e => (s4 y hy).2 k hk e)⟩, s5⟩, fun y hy u hu => ?_⟩
    rcases List.mem_cons.1 hu with rfl | hu
    · exact ⟨(s3 y hy x (by simp)).1, fun k hk e => fresh y (by simp [hy]) (fun k hk e => (s3 y hy x (by simp)).2 k e hk) k e hk⟩
    · exact s3 y hy u (by simp [hu])

theorem BufX.more {w w' : World} {base Z M : Nat} {xs : List Sl} {cur : Nat} {size count size' count' : Int} (h : BufX w base Z M xs cur size count) {F n : Nat} (hfr : w.heap.size ≤ F) (hbF : base ≤ F) (hn : Near w w' Z F M none)
    {v' : Value} {fr' : Fr} (hz : w'.heap[Z]? = some (.cells [.map (some M), .int .u16 cur, .int .i64 size', .int .i64 count'].toArray 86)) (hm : HasMap .u16 w' M (keys xs ++ [((n : Int), .pointer (some ⟨F, 0, none⟩))])) (hF : w'.heap[F]? = some (.cells (frCells v' fr').toArray 101)) (hr : RowAt w' base v' fr'.ps)
    (ho : v'.ownBlock = none ∨ ∃ b, v'.ownBlock = some b ∧ w.heap.size ≤ b) : BufX w' base Z M (xs ++ [⟨n, F, v', fr'⟩]) cur size' count' := by
  have hvo : ∀ b, (none : Option Nat) = some b → ∃ c, w.heap[b]? = some (.cells c 107) := fun b hb => by cases hb
  have hk : Keep5 w w' := hn.keep5 h.z h.m (Or.inl hfr) hvo
  refine ⟨hz, ?_, ?_, ?_, h.bz, h.bm⟩
  · have : keys (xs ++ [⟨n, F, v', fr'⟩]) = keys xs ++ [((n : Int), .pointer (some ⟨F, 0, none⟩))] := by simp [keys]
    rw [this]; exact hm
  · intro y hy
    rcases List.mem_append.1 hy with hy | hy
    · exact h.other hn hk hvo hy (by have := ltB (h.fr y hy).2.1; omega) (fun b hb e => by cases e) (fun b hb => by have := ((h.fr y hy).2.2.own b hb).2.1; omega)
    · obtain rfl : y = ⟨n, F, v', fr'⟩ := by simpa using hy
      exact ⟨hbF, hF, hr⟩
  · refine List.pairwise_append.2 ⟨h.sep, by simp, fun y hy u hu => ?_⟩
    obtain rfl : u = ⟨n, F, v', fr'⟩ := by simpa using hu
    refine ⟨by have := ltB (h.fr y hy).2.1; simp only; omega, fun b hb e => ?_⟩
    have := ((h.fr y hy).2.2.own b hb).2.1
    rcases ho with e2 | ⟨c, e2, hc⟩
    · rw [e2] at e; cases e
    · rw [e2] at e
      injection e with e
      omega

end Go.Proofs.YtblmbbllfiigmaaDoor
