/-
  What FragmentsKnown answers of a script of pushes of single pieces, and pops: it answers.
-/
import Derived.Test.YtblmbbllfiigmaaDoorSpl
import Derived.Test.YtblmbbllfiigmaaDoorPAllb3
namespace Go.Proofs.YtblmbbllfiigmaaDoor
open Go.RowKit Go.Proofs.YtblmbbllfiigmaaDoorW.PrintWords Go.Proofs.YtblmbbllfiigmaaDoorW.PrintLast Go.Proofs.YtblmbbllfiigmaaDoorW.PrintMore PAll

/-- Fragments whose bytes agree. -/
theorem alike_loop (o1 o2 f0 f1 f2 f5 g0 g1 g2 g5 : Int) (d1 d2 : ByteArray) (ho1 : 0 ≤ o1 ∧ o1 ≤ 1000000) (ho2 : 0 ≤ o2 ∧ o2 ≤ 1000000) (hs : d1.size ≤ 1000000)
    (hag : ∀ t : Nat, t < d1.size → 0 ≤ o1 + (t : Int) - o2 → o1 + (t : Int) - o2 < (d2.size : Int) → bt d1 (t : Int) = bt d2 (o1 + (t : Int) - o2)) :
    ∀ (d i : Nat), i + d = d1.size → Ev (fun k => spec_alike.l0 k (i : Int) f0 f1 f2 o1 d1 f5 g0 g1 g2 o2 d2 g5) true
  | 0, i, h => by
    refine Ev.step (G := fun _ => some true) (Ev.const _) (fun k => ?_)
    rw [spec_alike.l0, if_neg (by omega)]
  | d + 1, i, h => by
    have ih := alike_loop o1 o2 f0 f1 f2 f5 g0 g1 g2 g5 d1 d2 ho1 ho2 hs hag d (i + 1) (by omega)
    have e1 : wrap64 (wrap64 (o1 + (i : Int)) - o2) = o1 + (i : Int) - o2 := by
      rw [w64_small (o1 + (i : Int)) (by omega) (by omega), w64_small _ (by omega) (by omega)]
    refine Ev.step ih (fun k => ?_)
    rw [spec_alike.l0, if_pos (by omega), e1, w64_succ _ (by omega)]
    by_cases c1 : o1 + (i : Int) - o2 ≥ 0
    · rw [if_pos c1]
      by_cases c2 : o1 + (i : Int) - o2 < (d2.size : Int)
      · rw [if_pos c2, if_pos (by omega), if_pos (by omega), if_pos (hag i (by omega) (by omega) c2)]
      · rw [if_neg c2]
    · rw [if_neg c1]
theorem alike_pieces (P : Msgs) {p q : Nat × Nat} (hp : p.1 < P.N ∧ p.2 < P.m p.1) (hq : q.1 < P.N ∧ q.2 < P.m q.1) (e : p.1 = q.1) :
    Ev (fun k => spec_alike.f k (pcP P p).f0 (pcP P p).f1 (pcP P p).f2 (pcP P p).f3 (pcP P p).f4 (pcP P p).f5 (pcP P q).f0 (pcP P q).f1 (pcP P q).f2 (pcP P q).f3 (pcP P q).f4 (pcP P q).f5) true := by
  have bound : ∀ {x : Nat × Nat}, (x.1 < P.N ∧ x.2 < P.m x.1) → x.2 * P.n x.1 ≤ 600 ∧ (pcP P x).f4.size ≤ 600 := fun {x} hx => by
    have h1 := P.short x.1 hx.1
    rw [pcP_size]
    rcases (P.cuts x.1 hx.1).inn x.2 hx.2 with h | h
    · omega
    · rw [h, Nat.zero_mul]; omega
  have b1 := bound hp
  have b2 := bound hq
  unfold spec_alike.f
  refine Ev.ite rfl (Ev.ite (by rw [pcP_f1, pcP_f1, e]) ?_)
  refine Ev.step (alike_loop (pcP P p).f3 (pcP P q).f3 (pcP P p).f0 (pcP P p).f1 (pcP P p).f2 (pcP P p).f5 (pcP P q).f0 (pcP P q).f1 (pcP P q).f2 (pcP P q).f5 (pcP P p).f4 (pcP P q).f4 (by rw [pcP_f3]; omega) (by rw [pcP_f3]; omega) (by omega) (fun t ht h1 h2 => ?_) (pcP P p).f4.size 0 (by omega)) (fun k => ?_)
  · rw [pcP_f3, pcP_f3] at h1 h2 ⊢
    obtain ⟨u, hu⟩ : ∃ u : Nat, ((p.2 * P.n p.1 : Nat) : Int) + (t : Int) - ((q.2 * P.n q.1 : Nat) : Int) = (u : Int) := ⟨(((p.2 * P.n p.1 : Nat) : Int) + (t : Int) - ((q.2 * P.n q.1 : Nat) : Int)).toNat, by omega⟩
    rw [hu]
    rw [hu] at h2
    have hu2 : u < (pcP P q).f4.size := by omega
    rw [← rd_bytesOf, ← rd_bytesOf, pcP_bytes P p hp.1, pcP_bytes P q hq.1]
    have s1 : t < (chk (P.B p.1) (P.n p.1) p.2).length := by rw [chk_len, ← pcP_size]; exact ht
    have s2 : u < (chk (P.B q.1) (P.n q.1) q.2).length := by rw [chk_len, ← pcP_size]; exact hu2
    have g1 := chk_get (P.B p.1) (P.n p.1) p.2 (p.2 * P.n p.1 + t) (by omega) (by omega)
    have g2 := chk_get (P.B q.1) (P.n q.1) q.2 (q.2 * P.n q.1 + u) (by omega) (by omega)
    rw [show p.2 * P.n p.1 + t - p.2 * P.n p.1 = t from by omega] at g1
    rw [show q.2 * P.n q.1 + u - q.2 * P.n q.1 = u from by omega] at g2
    have es : p.2 * P.n p.1 + t = q.2 * P.n q.1 + u := by omega
    unfold rd
    rw [Int.toNat_natCast, Int.toNat_natCast, List.getD_eq_getElem?_getD, List.getD_eq_getElem?_getD, g1, g2, es, e]
  · rw [show ((pcP P p).f5 != (pcP P q).f5) = false from rfl, spec_alike.j0, if_neg (by decide)]
    rfl

theorem rd_T68_at (l : List S68) (i : Nat) (x : S68) (h : l[i]? = some x) : rd_T68 l (i : Int) = x := by
  rw [rd_T68, Int.toNat_natCast, List.getD_eq_getElem?_getD, h]
  rfl
theorem rd_T40_at (l : List S40) (i : Nat) (x : S40) (h : l[i]? = some x) : rd_T40 l (i : Int) = x := by
  rw [rd_T40, Int.toNat_natCast, List.getD_eq_getElem?_getD, h]
  rfl

/-- A step of the scripts here. -/
def OkStep (P : Msgs) (x : S40) : Prop := x.f0 = false ∨ ∃ i p, i < 65536 ∧ (p.1 < P.N ∧ p.2 < P.m p.1) ∧ x = stepOf (pushC i (P.frs [p]))

/-- The pieces that came before are looked through. -/
theorem fk_inner (P : Msgs) (X : List S40) (sz : Int) (j : Nat) (ps : List (Nat × Nat)) (hps : P.ok ps) (hpl : ps.length ≤ 1000000) (p : Nat × Nat) (hp : p.1 < P.N ∧ p.2 < P.m p.1) (r : Bool)
    (hend : Ev (fun k => spec_FragmentsKnown.l1 k X ((ps ++ [p]).map (pcP P)) sz (j : Int) [pcP P p] 1) r) :
    ∀ (d t : Nat), t + d = ps.length → Ev (fun k => spec_FragmentsKnown.l2 k X (ps.map (pcP P)) sz (j : Int) [pcP P p] 0 (t : Int)) r
  | 0, t, h => by
    refine Ev.step hend (fun k => ?_)
    rw [spec_FragmentsKnown.l2, if_neg (by rw [List.length_map]; omega), if_pos (by omega), if_pos (by simp), if_pos (by rw [List.length_map]; omega), show rd_T68 [pcP P p] 0 = pcP P p from rfl, List.map_append, show wrap64 (0 + 1) = 1 from by unfold wrap64; omega]
    rfl
  | d + 1, t, h => by
    have ih := fk_inner P X sz j ps hps hpl p hp r hend d (t + 1) (by omega)
    have ht : t < ps.length := by omega
    have hg : (ps.map (pcP P))[t]? = some (pcP P ps[t]) := by rw [List.getElem?_map, List.getElem?_eq_getElem ht]; rfl
    have hq := hps ps[t] (List.getElem_mem ht)
    by_cases e : ps[t].1 = p.1
    · refine Ev.step (Ev.bind (G := fun k b => if b = true then spec_FragmentsKnown.l2 k X (ps.map (pcP P)) sz (j : Int) [pcP P p] 0 ((t + 1 : Nat) : Int) else none) (alike_pieces P hq hp e) (Ev.ite (F := fun k => spec_FragmentsKnown.l2 k X (ps.map (pcP P)) sz (j : Int) [pcP P p] 0 ((t + 1 : Nat) : Int)) (G := fun _ => none) rfl ih)) (fun k => ?_)
      rw [spec_FragmentsKnown.l2, if_pos (by rw [List.length_map]; omega), if_pos (by omega), if_pos (by omega), if_pos (by simp), rd_T68_at _ t _ hg, show rd_T68 [pcP P p] 0 = pcP P p from rfl, if_pos (by rw [pcP_f2, pcP_f2, e]), w64_succ _ (by omega)]
    · refine Ev.step ih (fun k => ?_)
      rw [spec_FragmentsKnown.l2, if_pos (by rw [List.length_map]; omega), if_pos (by omega), if_pos (by omega), if_pos (by simp), rd_T68_at _ t _ hg, show rd_T68 [pcP P p] 0 = pcP P p from rfl, if_neg (by rw [pcP_f2, pcP_f2]; omega), w64_succ _ (by omega)]

set_option maxRecDepth 10000 in
theorem fk_loop (P : Msgs) (X : List S40) (hX : ∀ x ∈ X, OkStep P x) (hXl : X.length ≤ 100000) : ∀ (d j : Nat) (ps : List (Nat × Nat)) (sz : Nat), j + d = X.length → P.ok ps → ps.length ≤ j → sz ≤ j * 1000 →
    ∃ r : Bool, Ev (fun k => spec_FragmentsKnown.l0 k X (ps.map (pcP P)) (sz : Int) (j : Int)) r
  | 0, j, ps, sz, h, _, _, _ => by
    have e : ∀ k, spec_FragmentsKnown.l0 (k + 1) X (ps.map (pcP P)) (sz : Int) (j : Int) = (if (X.length : Int) ≤ 100 then (if (sz : Int) ≤ 20000 then (some (decide (((ps.map (pcP P)).length : Int) ≤ 500))) else (some false)) else (some false)) := fun k => by
      rw [spec_FragmentsKnown.l0, if_neg (by omega)]
    by_cases c1 : (X.length : Int) ≤ 100
    · by_cases c2 : (sz : Int) ≤ 20000
      · exact ⟨_, Ev.step (Ev.const _) (fun k => by rw [e, if_pos c1, if_pos c2])⟩
      · exact ⟨_, Ev.step (Ev.const _) (fun k => by rw [e, if_pos c1, if_neg c2])⟩
    · exact ⟨_, Ev.step (Ev.const _) (fun k => by rw [e, if_neg c1])⟩
  | d + 1, j, ps, sz, h, hps, hpl, hsz => by
    have hj : j < X.length := by omega
    have hget : X[j]? = some X[j] := List.getElem?_eq_getElem hj
    have hrd := rd_T40_at X j _ hget
    rcases hX X[j] (List.getElem_mem hj) with hf | ⟨i, p, hi, hp, hx⟩
    · obtain ⟨r, ih⟩ := fk_loop P X hX hXl d (j + 1) ps sz (by omega) hps (by omega) (by omega)
      refine ⟨r, Ev.step ih (fun k => ?_)⟩
      rw [spec_FragmentsKnown.l0, if_pos (by omega), if_pos (by omega), hrd, if_neg (by rw [hf]; decide), w64_succ _ (by omega)]
    · have hrec := one_piece P hp hi
      obtain ⟨i2, _, hs⟩ := hrec.is
      have hfl := frag_len P (i := p.2) hp.1
      have hsize : (pushC i (P.frs [p])).data.size = 13 + (enc (P.fr p.1 p.2)).length := by rw [hs, strOfNums_size, rec_len]
      have hby := rec_bytes i2 _ (enc_byt (P.fr p.1 p.2) hrec.fits.typ hrec.byt)
      rw [← hs] at hby
      have hb : ∀ t : Nat, bt (pushC i (P.frs [p])).data (t : Int) = (recN i2 (enc (P.fr p.1 p.2))).getD t 0 := fun t => by
        rw [← rd_bytesOf, hby, rd, Int.toNat_natCast]
      have hel : 12 ≤ (enc (P.fr p.1 p.2)).length := by rw [enc_len]; omega
      obtain ⟨r, ih⟩ := fk_loop P X hX hXl d (j + 1) (ps ++ [p]) (sz + (pushC i (P.frs [p])).data.size) (by omega) (fun x hx => by
        rcases List.mem_append.1 hx with hx | hx
        · exact hps x hx
        · obtain rfl : x = p := by simpa using hx
          exact hp) (by simp; omega) (by rw [hsize]; omega)
      refine ⟨r, ?_⟩
      have hlast : Ev (fun k => spec_FragmentsKnown.l1 k X ((ps ++ [p]).map (pcP P)) (wrap64 ((sz : Int) + ((pushC i (P.frs [p])).data.size : Int))) (j : Int) [pcP P p] 1) r := by
        refine Ev.step ih (fun k => ?_)
        rw [spec_FragmentsKnown.l1, if_neg (by simp), w64_succ _ (by omega), w64_small _ (by omega) (by omega)]
        rfl
      have hin := fk_inner P X _ j ps hps (by omega) p hp r hlast ps.length 0 (by omega)
      have hj4 : Ev (fun k => spec_FragmentsKnown.j4 k X (ps.map (pcP P)) (wrap64 ((sz : Int) + ((pushC i (P.frs [p])).data.size : Int))) (j : Int) [pcP P p] 0 false) r := by
        refine Ev.step hin (fun k => ?_)
        rw [spec_FragmentsKnown.j4, if_neg (by decide)]
        rfl
      have hl1 : Ev (fun k => spec_FragmentsKnown.l1 k X (ps.map (pcP P)) (wrap64 ((sz : Int) + ((pushC i (P.frs [p])).data.size : Int))) (j : Int) [pcP P p] 0) r := by
        refine Ev.step hj4 (fun k => ?_)
        rw [spec_FragmentsKnown.l1, if_pos (by simp), if_pos (by omega), show rd_T68 [pcP P p] 0 = pcP P p from rfl]
        by_cases c : (pcP P p).f4.toList = ([] : List UInt8)
        · have hz : (pcP P p).f4.size = 0 := by
            rw [pcP_f4, Lib.strOfNums_toList] at c
            unfold Lib.bytesOf at c
            rw [List.map_eq_nil_iff] at c
            rw [pcP_f4, strOfNums_size, c]
            rfl
          have hd : decide ((pcP P p).f1 > 0) = false := by
            rw [decide_eq_false_iff_not, pcP_f1]
            rw [pcP_size] at hz
            have := (P.cuts p.1 hp.1).n1
            rcases (P.cuts p.1 hp.1).inn p.2 hp.2 with h | h
            · omega
            · rw [h, Nat.zero_mul] at hz; omega
          rw [if_pos c, hd]
        · rw [if_neg c]
      have hlen : (recN i2 (enc (P.fr p.1 p.2))).getD 11 0 = (((enc (P.fr p.1 p.2)).length / 256 % 256 : Nat) : Int) := rfl
      have hlen2 : (recN i2 (enc (P.fr p.1 p.2))).getD 12 0 = (((enc (P.fr p.1 p.2)).length % 256 : Nat) : Int) := rfl
      have hor : (Go.bits .or .i64 (wrap64 ((wrap64 (bt (pushC i (P.frs [p])).data 11)) * 256)) (wrap64 (bt (pushC i (P.frs [p])).data 12)) != (wrap64 (((pushC i (P.frs [p])).data.size : Int) - 13))) = false := by
        have b11 := hb 11
        have b12 := hb 12
        rw [hlen] at b11
        rw [hlen2] at b12
        rw [show ((11 : Nat) : Int) = 11 from rfl] at b11
        rw [show ((12 : Nat) : Int) = 12 from rfl] at b12
        rw [b11, b12, w64_small (((enc (P.fr p.1 p.2)).length / 256 % 256 : Nat) : Int) (by omega) (by omega), or_byte _ _ (by omega) (by omega) (by omega) (by omega), w64_small _ (by omega) (by omega), hsize]
        simp only [bne_eq_false_iff_eq]
        omega
      have hj1 : Ev (fun k => spec_FragmentsKnown.j1 k X (ps.map (pcP P)) (sz : Int) (j : Int) false) r := by
        have hj2 : Ev (fun k => spec_FragmentsKnown.j2 k X (ps.map (pcP P)) (wrap64 ((sz : Int) + ((pushC i (P.frs [p])).data.size : Int))) (j : Int) [pcP P p] false) r := by
          refine Ev.step hl1 (fun k => ?_)
          rw [spec_FragmentsKnown.j2, if_neg (by decide)]
        have hb0 := hb 0
        rw [show (recN i2 (enc (P.fr p.1 p.2))).getD 0 0 = 22 from rfl, show ((0 : Nat) : Int) = 0 from rfl] at hb0
        refine Ev.step (Ev.bind (G := fun k bt247 => if bt247.2 = true then spec_FragmentsKnown.j2 k X (ps.map (pcP P)) (wrap64 ((sz : Int) + ((pushC i (P.frs [p])).data.size : Int))) (j : Int) bt247.1 (Go.bits .or .i64 (wrap64 ((wrap64 (bt (pushC i (P.frs [p])).data 11)) * 256)) (wrap64 (bt (pushC i (P.frs [p])).data 12)) != (wrap64 (((pushC i (P.frs [p])).data.size : Int) - 13))) else spec_FragmentsKnown.j2 k X (ps.map (pcP P)) (wrap64 ((sz : Int) + ((pushC i (P.frs [p])).data.size : Int))) (j : Int) bt247.1 true) (pieces_ev hrec) (Ev.ite rfl (by rw [hor]; exact hj2))) (fun k => ?_)
        rw [spec_FragmentsKnown.j1, if_neg (by decide), if_pos (by omega), if_pos (by omega), hrd, hx]
        have ef : (stepOf (pushC i (P.frs [p]))).f1 = (pushC i (P.frs [p])).data := rfl
        rw [ef, if_pos (by rw [hsize]; omega), if_pos hb0]
        have e11 : (11 : Int) < ((pushC i (P.frs [p])).data.size : Int) := by rw [hsize]; omega
        have e12 : (12 : Int) < ((pushC i (P.frs [p])).data.size : Int) := by rw [hsize]; omega
        simp only [if_pos e11, if_pos e12]
      refine Ev.step hj1 (fun k => ?_)
      have hb1 := hb 1
      have hb2 := hb 2
      rw [show (recN i2 (enc (P.fr p.1 p.2))).getD 1 0 = 254 from rfl, show ((1 : Nat) : Int) = 1 from rfl] at hb1
      rw [show (recN i2 (enc (P.fr p.1 p.2))).getD 2 0 = 253 from rfl, show ((2 : Nat) : Int) = 2 from rfl] at hb2
      rw [spec_FragmentsKnown.l0, if_pos (by omega), if_pos (by omega), hrd, hx]
      have ef : (stepOf (pushC i (P.frs [p]))).f1 = (pushC i (P.frs [p])).data := rfl
      rw [ef, if_pos (show (stepOf (pushC i (P.frs [p]))).f0 = true from rfl), if_neg (by rw [hsize]; omega), if_pos (by rw [hsize]; omega), if_pos hb1, if_pos (by rw [hsize]; omega), hb2]
      rfl
theorem fk_ev (P : Msgs) (X : List S40) (hX : ∀ x ∈ X, OkStep P x) (hXl : X.length ≤ 100000) : ∃ r : Bool, Ev (fun k => spec_FragmentsKnown.f k X) r := by
  have h := fk_loop P X hX hXl X.length 0 [] 0 (by omega) (fun _ h => by cases h) (by simp) (by simp)
  exact h

end Go.Proofs.YtblmbbllfiigmaaDoor
