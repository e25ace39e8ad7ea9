/-
  FnCompactWider, walked: whatever the packets and the two sizes, the law ends with true.
-/
import Derived.Test.YtklihfjchomkmaaCount
namespace Go.Proofs.Ytklihfjchomkmaa
open Go.RowKit Go.Proofs.YtklihfjchomkmaaW.PrintWords Go.Proofs.YtklihfjchomkmaaW.PrintLast Go.Proofs.YtklihfjchomkmaaW.PrintMore PFnCompactWider

set_option maxRecDepth 100000 in
set_option maxHeartbeats 2000000 in
theorem compact_law (A : Option Addr) (c : Nat) (l : List ByteArray) (n m : Int) (w : World) (hl : l.length ≤ 9223372036854775807) (hr : Kd.C Kd.string w A l.length l) (hc : l.length ≤ c) :
    Calls Try.prog 3 #[.slice A l.length c, .int .i64 n, .int .i64 m] w fun e w' => e = .returned (.bool true) ∧ Below w.heap.size w w' := by
  have HR := Aside0.mk hr
  have HC := Aside0.mk hc
  obtain ⟨k, b, hz, hz2⟩ := zz_f l hl
  have HZ := Aside0.mk hz
  have HZ2 := Aside0.mk hz2
  clear hr hc hz hz2 hl
  cases b
  · go_enter Try.func3, Try.ntmps3
    go_wp2_with fail
    refine (laws_zzFits2.calls k A c l false _ HR.out HC.out HZ.out).mono ?_
    rintro e w1 ⟨rfl, hd⟩
    have HD := Aside0.mk hd.below
    clear hd
    go_wp2
    go_ret
    exact ⟨rfl, HD.out⟩
  obtain ⟨hl1, hl2⟩ := HZ2.out rfl
  have hf := few_f l hl1 hl2
  by_cases g1 : l.length + sizes l < 2000
  · have HF : Aside0 (laws_few.f (l.length + 1) l = some true) := ⟨by rw [hf]; simp [g1]⟩
    have HG := Aside0.mk g1
    clear hf hl1 hl2 g1
    have hl3 : l.length ≤ 2000 := by have := HG.out; omega
    have hl4 : (l.map ByteArray.size).sum ≤ 2000 := by have := HG.out; unfold sizes at this; omega
    have HS := Aside0.mk hl4
    clear hl4
    by_cases q1 : n < 0
    · go_enter Try.func3, Try.ntmps3
      go_wp2_with fail
      refine (laws_zzFits2.calls k A c l true _ HR.out HC.out HZ.out).mono ?_
      rintro e w1 ⟨rfl, hd⟩
      have HD := Aside0.mk hd.below
      clear hd
      go_wp2_with fail
      refine (laws_few.calls (l.length + 1) A c l true w1 (Kd.C_below HR.out HD.out) HC.out HF.out).mono ?_
      rintro e w2 ⟨rfl, hd⟩
      have HD2 := Aside0.mk (below_then HD.out HD.out.size hd.below)
      clear hd
      go_wp2
      go_ret
      exact ⟨rfl, HD2.out⟩
    by_cases q2 : m < n
    · go_enter Try.func3, Try.ntmps3
      go_wp2_with fail
      refine (laws_zzFits2.calls k A c l true _ HR.out HC.out HZ.out).mono ?_
      rintro e w1 ⟨rfl, hd⟩
      have HD := Aside0.mk hd.below
      clear hd
      go_wp2_with fail
      refine (laws_few.calls (l.length + 1) A c l true w1 (Kd.C_below HR.out HD.out) HC.out HF.out).mono ?_
      rintro e w2 ⟨rfl, hd⟩
      have HD2 := Aside0.mk (below_then HD.out HD.out.size hd.below)
      clear hd
      go_wp2
      go_ret
      exact ⟨rfl, HD2.out⟩
    by_cases q3 : 3000 < m
    · go_enter Try.func3, Try.ntmps3
      go_wp2_with fail
      refine (laws_zzFits2.calls k A c l true _ HR.out HC.out HZ.out).mono ?_
      rintro e w1 ⟨rfl, hd⟩
      have HD := Aside0.mk hd.below
      clear hd
      go_wp2_with fail
      refine (laws_few.calls (l.length + 1) A c l true w1 (Kd.C_below HR.out HD.out) HC.out HF.out).mono ?_
      rintro e w2 ⟨rfl, hd⟩
      have HD2 := Aside0.mk (below_then HD.out HD.out.size hd.below)
      clear hd
      go_wp2
      go_ret
      exact ⟨rfl, HD2.out⟩
    by_cases q4 : l.length = 0
    · have q5 : ((l.length : Int) == 0) = true := by rw [beq_iff_eq]; omega
      clear q4
      go_enter Try.func3, Try.ntmps3
      go_wp2_with fail
      refine (laws_zzFits2.calls k A c l true _ HR.out HC.out HZ.out).mono ?_
      rintro e w1 ⟨rfl, hd⟩
      have HD := Aside0.mk hd.below
      clear hd
      go_wp2_with fail
      refine (laws_few.calls (l.length + 1) A c l true w1 (Kd.C_below HR.out HD.out) HC.out HF.out).mono ?_
      rintro e w2 ⟨rfl, hd⟩
      have HD2 := Aside0.mk (below_then HD.out HD.out.size hd.below)
      clear hd
      go_wp2
      go_ret
      exact ⟨rfl, HD2.out⟩
    have q5 : ((l.length : Int) == 0) = false := by rw [beq_eq_false_iff_ne]; omega
    have q6 : 0 < l.length := by omega
    have HP : Aside0 (0 < (outC n (l.map bytesOf)).length ∧ (outC m (l.map bytesOf)).length ≤ (outC n (l.map bytesOf)).length ∧ (outC 4000 (l.map bytesOf)).length = 1 ∧ (outC n (l.map bytesOf)).length ≤ l.length) := ⟨by
      refine ⟨outC_pos _ _, outC_mono (by omega) _, outC_room _ _ ?_, ?_⟩
      · rw [lens_bytes]; have := HS.out; omega
      · have h := outC_le n (l.map bytesOf) (by rw [List.length_map]; exact q6)
        rw [List.length_map] at h
        exact h⟩
    clear q4
    go_enter Try.func3, Try.ntmps3
    go_wp2_with fail
    refine (laws_zzFits2.calls k A c l true _ HR.out HC.out HZ.out).mono ?_
    rintro e w1 ⟨rfl, hd⟩
    have HD := Aside0.mk hd.below
    clear hd
    go_wp2_with fail
    refine (laws_few.calls (l.length + 1) A c l true w1 (Kd.C_below HR.out HD.out) HC.out HF.out).mono ?_
    rintro e w2 ⟨rfl, hd⟩
    have HD2 := Aside0.mk (below_then HD.out HD.out.size hd.below)
    clear hd
    go_wp2_with fail
    refine (impl_any n A c l w2 (by omega) (by omega) q6 hl3 HS.out (Kd.C_below HR.out HD2.out)).mono ?_
    rintro e w3 ⟨Aa, ca, ra, hra, rfl, hca, hba⟩
    have HDa := Aside0.mk (below_then HD2.out HD2.out.size hba)
    have HRA := Aside0.mk hra
    clear hba hca hra
    go_wp2_with fail
    refine (impl_any m A c l w3 (by omega) (by omega) q6 hl3 HS.out (Kd.C_below HR.out HDa.out)).mono ?_
    rintro e w4 ⟨Ab, cb, rb, hrb, rfl, hcb, hbb⟩
    have HDb := Aside0.mk (below_then HDa.out HDa.out.size hbb)
    have HRB := Aside0.mk hrb
    clear hbb hcb hrb
    go_wp2_with fail
    refine (impl_any 4000 A c l w4 (by omega) (by omega) q6 hl3 HS.out (Kd.C_below HR.out HDb.out)).mono ?_
    rintro e w5 ⟨Ac, cc, rc, hrc, rfl, hcc, hbc⟩
    have HDc := Aside0.mk (below_then HDb.out HDb.out.size hbc)
    have HRC := Aside0.mk hrc
    clear hbc hcc hrc
    have z1 : 0 < ra.length := by rw [HRA.out]; exact HP.out.1
    have z2 : rb.length ≤ ra.length := by rw [HRA.out, HRB.out]; exact HP.out.2.1
    have z3 : ((rc.length : Int) == 1) = true := by rw [beq_iff_eq, HRC.out, HP.out.2.2.1]; rfl
    have z4 : ra.length ≤ l.length := by rw [HRA.out]; exact HP.out.2.2.2
    go_wp2
    go_ret
    exact ⟨rfl, HDc.out⟩
  · have HF : Aside0 (laws_few.f (l.length + 1) l = some false) := ⟨by rw [hf]; simp [g1]⟩
    clear hf hl1 hl2 g1
    go_enter Try.func3, Try.ntmps3
    go_wp2_with fail
    refine (laws_zzFits2.calls k A c l true _ HR.out HC.out HZ.out).mono ?_
    rintro e w1 ⟨rfl, hd⟩
    have HD := Aside0.mk hd.below
    clear hd
    go_wp2_with fail
    refine (laws_few.calls (l.length + 1) A c l false w1 (Kd.C_below HR.out HD.out) HC.out HF.out).mono ?_
    rintro e w2 ⟨rfl, hd⟩
    have HD2 := Aside0.mk (below_then HD.out HD.out.size hd.below)
    clear hd
    go_wp2
    go_ret
    exact ⟨rfl, HD2.out⟩

end Go.Proofs.Ytklihfjchomkmaa

namespace Go.Proofs.Ytklihfjchomkmaa
open Go.RowKit Go.Proofs.YtklihfjchomkmaaW.PrintWords
theorem compact_row (A : Option Addr) (c : Nat) (l : List ByteArray) (n m : Int) (w : World) (hl : l.length ≤ 9223372036854775807) (hr : Kd.C Kd.string w A l.length l) (hc : l.length ≤ c) (_ : (Lit.int .i64 n).wf = true) (_ : (Lit.int .i64 m).wf = true) :
    Calls Try.prog 3 #[.slice A l.length c, .int .i64 n, .int .i64 m] w fun e w' => e = .returned (.bool true) ∧ Below w.heap.size w w' := compact_law A c l n m w hl hr hc
end Go.Proofs.Ytklihfjchomkmaa
