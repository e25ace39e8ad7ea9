/-
  The places between the steps of one fragment's push, in plain words.
-/
import Derived.Test.YtblmbbllfiigmaaDoorPut
namespace Go.Proofs.YtblmbbllfiigmaaDoor
open Go.RowKit Go.Proofs.YtblmbbllfiigmaaDoorW.PrintWords Go.Proofs.YtblmbbllfiigmaaDoorW.PrintLast Go.Proofs.YtblmbbllfiigmaaDoorW.PrintMore

/-- Where push stands ahead of add. -/
structure MidF (w4 : World) (base : Nat) (xs : List Sl) (g : Frag) (F : Nat) (f : Fr) (v : Value) (ok : Bool) (wx : World) : Prop where
  fb : wx.heap[F]? = some (.cells (frCells v f).toArray 101)
  row : RowAt wx base v f.ps
  okf : OkF f g
  bel : Below w4.heap.size w4 wx
  kind : (ok = true ∧ ∃ a x b, xs = a ++ x :: b ∧ x.num = g.seq ∧ x.F = F ∧ x.v = v ∧ x.fr = f ∧ lookF g.seq (sts xs) = some f ∧ ∀ y ∈ a, y.num ≠ g.seq) ∨
    (ok = false ∧ w4.heap.size ≤ F ∧ f = frNew g ∧ v = .slice none 0 0 ∧ lookF g.seq (sts xs) = none)

/-- Where push stands behind add. -/
structure Mid (w5 : World) (base Z M : Nat) (cur : Nat) (sz ct : Int) (L : List (Int × Value)) (F : Nat) (fr : Fr) (v v' : Value) (wx : World) : Prop where
  fb : wx.heap[F]? = some (.cells (frCells v' fr).toArray 101)
  row : RowAt wx base v' fr.ps
  own : v'.ownBlock = v.ownBlock ∨ ∃ b, v'.ownBlock = some b ∧ w5.heap.size ≤ b
  near : Near w5 wx Z F M v.ownBlock
  z : wx.heap[Z]? = some (.cells [.map (some M), .int .u16 cur, .int .i64 sz, .int .i64 ct].toArray 86)
  map : HasMap .u16 wx M L

theorem MidF.apart {w5 : World} {base Z M : Nat} {xs : List Sl} {cur : Nat} {sz ct : Int} {g : Frag} {F : Nat} {f : Fr} {v : Value} {ok : Bool} {wx : World} (hx : BufX w5 base Z M xs cur sz ct) (hm : MidF w5 base xs g F f v ok wx)
    (k : Nat) (hk : k < w5.heap.size) (h1 : ∀ l, w5.heap[k]? ≠ some (.cells l 101)) (h7 : ∀ l, w5.heap[k]? ≠ some (.cells l 107)) : k ≠ F ∧ some k ≠ v.ownBlock := by
  rcases hm.kind with ⟨_, a, x, b, e1, _, e3, e4, _⟩ | ⟨_, e2, _, e4, _⟩
  · obtain ⟨x1, x2, x3⟩ := hx.fr x (by rw [e1]; simp)
    refine ⟨?_, ?_⟩
    · rintro rfl; rw [← e3] at h1; exact h1 _ x2
    · intro e
      rw [← e4] at e
      obtain ⟨_, _, c, hc⟩ := x3.own k e.symm
      exact h7 _ hc
  · refine ⟨by omega, ?_⟩
    rw [e4]; intro e; cases e
theorem MidF.z_apart {w5 : World} {base Z M : Nat} {xs : List Sl} {cur : Nat} {sz ct : Int} {g : Frag} {F : Nat} {f : Fr} {v : Value} {ok : Bool} {wx : World} (hx : BufX w5 base Z M xs cur sz ct) (hm : MidF w5 base xs g F f v ok wx) : Z ≠ F ∧ some Z ≠ v.ownBlock :=
  hm.apart hx Z (ltB hx.z) (fun l e => by rw [hx.z] at e; injection e with e; injection e with _ e; exact absurd e (by decide)) (fun l e => by rw [hx.z] at e; injection e with e; injection e with _ e; exact absurd e (by decide))
theorem MidF.m_apart {w5 : World} {base Z M : Nat} {xs : List Sl} {cur : Nat} {sz ct : Int} {g : Frag} {F : Nat} {f : Fr} {v : Value} {ok : Bool} {wx : World} (hx : BufX w5 base Z M xs cur sz ct) (hm : MidF w5 base xs g F f v ok wx) : M ≠ F ∧ some M ≠ v.ownBlock := by
  obtain ⟨es, cl, h, _⟩ := hx.m.ex
  exact hm.apart hx M hx.m.lt (fun l e => by rw [h] at e; cases e) (fun l e => by rw [h] at e; cases e)

theorem mid_of {w5 : World} {base Z M : Nat} {xs : List Sl} {cur : Nat} {sz ct : Int} {g : Frag} {F : Nat} {f : Fr} {v : Value} {ok : Bool} {wc wq : World} (hx : BufX w5 base Z M xs cur sz ct) (hm : MidF w5 base xs g F f v ok wc) (hp : PutPost wc.drew F v base f g wq) :
    ∃ v', Mid w5 base Z M cur sz ct (keys xs) F { f with ps := psOf f g, cov := covOf f g } v v' wq := by
  obtain ⟨v', h1, h2, h3⟩ := hp.ex
  have hbl : ∀ k, k < w5.heap.size → k ≠ F → some k ≠ v.ownBlock → wq.heap[k]? = w5.heap[k]? := fun k hk a b => (hp.block k (Nat.lt_of_lt_of_le hk hm.bel.size) a b).trans (hm.bel.block k hk)
  have z := hm.z_apart hx
  have m := hm.m_apart hx
  refine ⟨v', h1, h2, ?_, ⟨hp.os.trans hm.bel.os, hp.tape.trans hm.bel.tape, hp.output.trans hm.bel.output, Nat.le_trans hm.bel.size hp.size, fun k hk _ a _ b => hbl k hk a b⟩, (hbl Z (ltB hx.z) z.1 z.2).trans hx.z, hx.m.move (hbl M hx.m.lt m.1 m.2)⟩
  rcases h3 with e | ⟨b, e, hb⟩
  · exact Or.inl e
  · exact Or.inr ⟨b, e, Nat.le_trans hm.bel.size hb⟩

section
variable {w5 : World} {base Z M cur : Nat} {sz ct : Int} {L : List (Int × Value)} {F : Nat} {fr : Fr} {v v' : Value} {wx : World}

theorem Mid.setF (h : Mid w5 base Z M cur sz ct L F fr v v' wx) (j : Nat) (u : Value) (fr2 : Fr) (e : (frCells v' fr).set j u = frCells v' fr2) (ep : fr2.ps = fr.ps) : Mid w5 base Z M cur sz ct L F fr2 v v' (wx.setCell ⟨F, j, none⟩ u) := by
  have hg := grB wx F j u
  refine ⟨by rw [← e]; exact blk_setL h.fb j u, by rw [ep]; exact h.row.set h.fb (by decide) (by decide) j u, h.own, h.near.trans (Near.of_grown hg (Or.inr (Or.inl rfl))), ?_, ?_⟩
  · exact (Below.heap_setCell wx ⟨F, j, none⟩ u Z (fun e => cellsNe h.z h.fb (by decide) e)).trans h.z
  · exact h.map.move (Below.heap_setCell wx ⟨F, j, none⟩ u M (fun e => mapNe h.map h.fb e.symm))

theorem Mid.setZ (h : Mid w5 base Z M cur sz ct L F fr v v' wx) (j : Nat) (u : Value) (sz2 ct2 : Int) (e : [Value.map (some M), .int .u16 cur, .int .i64 sz, .int .i64 ct].set j u = [.map (some M), .int .u16 cur, .int .i64 sz2, .int .i64 ct2]) :
    Mid w5 base Z M cur sz2 ct2 L F fr v v' (wx.setCell ⟨Z, j, none⟩ u) := by
  have hg := grB wx Z j u
  refine ⟨?_, h.row.set h.z (by decide) (by decide) j u, h.own, h.near.trans (Near.of_grown hg (Or.inl rfl)), ?_, ?_⟩
  · exact (Below.heap_setCell wx ⟨Z, j, none⟩ u F (fun e => cellsNe h.z h.fb (by decide) e.symm)).trans h.fb
  · rw [← e]; exact blk_setL h.z j u
  · exact h.map.move (Below.heap_setCell wx ⟨Z, j, none⟩ u M (fun e => mapNe h.map h.z e.symm))

theorem Mid.setM (h : Mid w5 base Z M cur sz ct L F fr v v' wx) {w' : World} {L' : List (Int × Value)} (hm : HasMap .u16 w' M L') (hg : wx.grownBy w' (some M)) : Mid w5 base Z M cur sz ct L' F fr v v' w' := by
  refine ⟨(hg.block F (ltB h.fb) (fun e => by injection e with e; exact mapNe h.map h.fb e)).trans h.fb, ?_, h.own, h.near.trans (Near.of_grown hg (Or.inr (Or.inr (Or.inl rfl)))), (hg.block Z (ltB h.z) (fun e => by injection e with e; exact mapNe h.map h.z e)).trans h.z, hm⟩
  refine h.row.move (fun k hk => ?_) (Keep5.grown hg (fun b cells m e => ?_))
  · obtain ⟨_, hlt, c, hc⟩ := h.row.own k hk
    exact hg.block k hlt (fun e => by injection e with e; exact mapNe h.map hc e)
  · injection e with e
    subst e
    obtain ⟨es, cl, h1, _⟩ := h.map.ex
    rw [h1]
    intro e; cases e

theorem Mid.below (h : Mid w5 base Z M cur sz ct L F fr v v' wx) {w' : World} (hb : Below wx.heap.size wx w') : Mid w5 base Z M cur sz ct L F fr v v' w' :=
  ⟨(hb.block F (ltB h.fb)).trans h.fb, h.row.below hb, h.own, h.near.trans (Near.of_below hb), (hb.block Z (ltB h.z)).trans h.z, h.map.move (hb.block M h.map.lt)⟩
end

/-- Behind one fragment that is not old. -/
theorem mid_fin {w5 : World} {base Z M : Nat} {xs : List Sl} {cur : Nat} {sz ct : Int} {g : Frag} {F : Nat} {f : Fr} {v v' : Value} {ok : Bool} {wc wE : World} {ep : Int} {s : St} (hx : BufX w5 base Z M xs cur sz ct) (hm : MidF w5 base xs g F f v ok wc) (hb : base ≤ w5.heap.size)
    (hs : sts xs = s.ms) (hc : s.cur = cur) (hsz : s.size = sz) (hct : s.count = ct) (hq : ¬ g.seq < s.cur)
    (h : Mid w5 base Z M cur (sz + newB f g) (ct + newC f g) (if ok then keys xs else keys xs ++ [((g.seq : Int), .pointer (some ⟨F, 0, none⟩))]) F (frPut ep f g) v v' wE) : BufAt wE base Z (stPut ep s g) ∧ KeepT base w5 wE := by
  obtain ⟨es, cl, hM, _⟩ := hx.m.ex
  unfold stPut
  rw [if_neg hq, ← hs, hc, hsz, hct]
  rcases hm.kind with ⟨rfl, a, x, b, rfl, e2, rfl, rfl, rfl, e6, e7⟩ | ⟨rfl, e2, rfl, rfl, e5⟩
  · rw [e6]
    have hx1 := hx.fr x (by simp)
    refine ⟨⟨M, _, hx.put h.near h.z h.map h.fb h.row h.own, ?_⟩, KeepT.of_near h.near hb hx.z hx.bz hx.m hx.bm (Or.inr ⟨_, hx1.2.1⟩) hx1.1 (fun k hk => ⟨(hx1.2.2.own k hk).1, (hx1.2.2.own k hk).2.2⟩)⟩
    simp only
    have hn := hx.nums
    rw [List.map_append, List.map_cons, List.nodup_append, List.nodup_cons] at hn
    have hbn : ∀ y ∈ b, y.num ≠ g.seq := fun y hy e => hn.2.1.1 (by rw [e2, ← e]; exact List.mem_map_of_mem hy)
    exact setF_at e2 e7 hbn _
  · rw [e5]
    have hF := Nat.le_trans hb e2
    refine ⟨⟨M, _, hx.more e2 hF h.near h.z h.map h.fb h.row h.own, ?_⟩, KeepT.of_near h.near hb hx.z hx.bz hx.m hx.bm (Or.inl e2) hF (fun k hk => by cases hk)⟩
    simp [sts]

end Go.Proofs.YtblmbbllfiigmaaDoor
