/-
  Replace over a row of pairs: what add needs of it.
-/
import Derived.Test.YtblmbbllfiigmaaDoorAddN
namespace Go.Proofs.YtblmbbllfiigmaaDoor
open Go.RowKit Go.Proofs.YtblmbbllfiigmaaDoorW.PrintWords Go.Proofs.YtblmbbllfiigmaaDoorW.PrintLast Go.Proofs.YtblmbbllfiigmaaDoorW.PrintMore

theorem replace_row (base : Nat) (v : Value) (ps : List (Int × List Int)) (i x : Nat) (off : Int) (sl : Value) (l : List Int) (W : World) (hr : RowAt W base v ps) (hx : W.heap[x]? = some (.cells [.int .u32 off, sl].toArray 107)) (hne : some x ≠ v.ownBlock) (hd : DatAt W sl l)
    (hi : i ≤ ps.length) (hn : ps.length ≤ 1000000) (hb : base ≤ W.heap.size) :
    Calls Tryd.prog 53 #[v, .int .i64 i, .int .i64 i, .slice (some ⟨x, 0, none⟩) 1 1] W fun e w' => ∃ v', e = .returned v' ∧ RowAt w' base v' (insP ps i (off, l)) ∧ W.grownBy w' v.ownBlock ∧ (v'.ownBlock = v.ownBlock ∨ ∃ b, v'.ownBlock = some b ∧ W.heap.size ≤ b) := by
  obtain ⟨cells, ho, hreps⟩ := hr.ex
  have hs1 : sl.oneCell' = true := by
    obtain ⟨A, c, e, _⟩ := hd
    rw [e]; rfl
  refine (replace_any base v ps.length i x cells (.int .u32 off) sl W ho hx hne (pair_one hreps) rfl hs1 hi hn hb).mono ?_
  rintro e w1 ⟨v1, rfl, ho1, hg, hat⟩
  have hk : Keep5 W w1 := Keep5.grown hg (fun b c m he hbb => by
    obtain ⟨c2, h2⟩ := own_typed ho b he
    rw [hbb] at h2
    injection h2 with h2
    injection h2 with _ h3
    exact absurd h3 (by decide))
  have hl : (insP ps i (off, l)).length = ps.length + 1 := by simp [insP]; omega
  exact ⟨v1, rfl, ⟨⟨_, by rw [hl]; exact ho1, (reps_put hreps ⟨sl, rfl, hd⟩ i hi).imp_ (fun _ _ hp => hp.keep hk)⟩⟩, hg, hat⟩

end Go.Proofs.YtblmbbllfiigmaaDoor
