/-
  Plain laws on the bits of a window's mask (lists of whole numbers below 2^64): reading a bit, setting a bit, shifting. No program is in sight.
-/
import Derived.Laws.Bits64
namespace Go.Proofs.Ytklihfjchomkmaa

/-- a list's number at a place -/
def at0 (xs : List Int) (i : Int) : Int := xs.getD i.toNat 0

def U64 (x : Int) : Prop := 0 ≤ x ∧ x < 18446744073709551616
def U64L (xs : List Int) : Prop := ∀ x ∈ xs, U64 x

theorem U64.nat {x : Int} (h : U64 x) : ∃ n : Nat, x = (n : Int) ∧ n < 2 ^ 64 := ⟨x.toNat, by have := h.1; omega, by have := h.2; have := h.1; omega⟩
theorem U64.of_nat {n : Nat} (h : n < 2 ^ 64) : U64 (n : Int) := ⟨by omega, by omega⟩
theorem U64.zero : U64 0 := ⟨by omega, by omega⟩

theorem at0_ok {xs : List Int} (h : U64L xs) (i : Int) : U64 (at0 xs i) := by
  unfold at0
  rw [List.getD_eq_getElem?_getD]
  rcases Nat.lt_or_ge i.toNat xs.length with hi | hi
  · rw [List.getElem?_eq_getElem hi]; exact h _ (List.getElem_mem hi)
  · rw [List.getElem?_eq_none hi]; exact U64.zero

theorem ofInt_nat (a : Nat) (ha : a < 2 ^ 64) : (BitVec.ofInt 64 (a : Int)).toNat = a := by
  rw [BitVec.ofInt_natCast, BitVec.toNat_ofNat]; exact Nat.mod_eq_of_lt ha

theorem bits_and_nat (a b : Nat) (ha : a < 2 ^ 64) (hb : b < 2 ^ 64) : bits .and .u64 (a : Int) (b : Int) = ((a &&& b : Nat) : Int) := by
  have hx : a &&& b < 2 ^ 64 := Nat.and_lt_two_pow _ hb
  show IntKind.u64.wrap ((BitVec.ofInt 64 (a : Int) &&& BitVec.ofInt 64 (b : Int)).toNat : Int) = _
  rw [BitVec.toNat_and, ofInt_nat a ha, ofInt_nat b hb, IntKind.wrap_u64]
  omega

theorem bits_or_nat (a b : Nat) (ha : a < 2 ^ 64) (hb : b < 2 ^ 64) : bits .or .u64 (a : Int) (b : Int) = ((a ||| b : Nat) : Int) := by
  have hx : a ||| b < 2 ^ 64 := Nat.or_lt_two_pow ha hb
  show IntKind.u64.wrap ((BitVec.ofInt 64 (a : Int) ||| BitVec.ofInt 64 (b : Int)).toNat : Int) = _
  rw [BitVec.toNat_or, ofInt_nat a ha, ofInt_nat b hb, IntKind.wrap_u64]
  omega

theorem wrap_nat (a : Nat) : IntKind.u64.wrap (a : Int) = ((a % 2 ^ 64 : Nat) : Int) := by
  rw [IntKind.wrap_u64]; omega

theorem wrap_pow (r : Nat) : IntKind.u64.wrap (2 ^ r) = ((2 ^ r % 2 ^ 64 : Nat) : Int) := by
  have h : ((2 : Int) ^ r) = ((2 ^ r : Nat) : Int) := by simp
  rw [h, wrap_nat]

theorem wrap_mul (a r : Nat) : IntKind.u64.wrap ((a : Int) * 2 ^ r) = ((a * 2 ^ r % 2 ^ 64 : Nat) : Int) := by
  have h : ((a : Int) * 2 ^ r) = ((a * 2 ^ r : Nat) : Int) := by simp
  rw [h, wrap_nat]

theorem div_pow (a r : Nat) : (a : Int) / 2 ^ r = ((a / 2 ^ r : Nat) : Int) := by simp

/-- bit r of a number -/
def tb (x : Int) (r : Int) : Bool := x.toNat.testBit r.toNat

theorem tb_nat (n : Nat) (r : Int) : tb (n : Int) r = n.testBit r.toNat := by unfold tb; simp

theorem and_tb (x r : Int) (hx : U64 x) (_h0 : 0 ≤ r) (h1 : r < 64) : (bits .and .u64 x (IntKind.u64.wrap (2 ^ r.toNat)) != 0) = tb x r := by
  obtain ⟨n, rfl, hn⟩ := hx.nat
  have hp : 2 ^ r.toNat < 2 ^ 64 := Nat.pow_lt_pow_right (by omega) (by omega)
  rw [wrap_pow, Nat.mod_eq_of_lt hp, bits_and_nat _ _ hn hp, tb_nat]
  cases h : n.testBit r.toNat
  · have e : n &&& 2 ^ r.toNat = 0 := by
      apply Nat.eq_of_testBit_eq
      intro i
      rw [Nat.testBit_and, Nat.testBit_two_pow, Nat.zero_testBit]
      by_cases e : r.toNat = i
      · subst e; simp [h]
      · simp [e]
    rw [e]; rfl
  · have e : n &&& 2 ^ r.toNat ≠ 0 := by
      intro e
      have h2 : (n &&& 2 ^ r.toNat).testBit r.toNat = true := by rw [Nat.testBit_and, Nat.testBit_two_pow, h]; simp
      rw [e, Nat.zero_testBit] at h2
      cases h2
    rw [bne_iff_ne]
    omega

theorem U64.bits_or {x y : Int} (hx : U64 x) (hy : U64 y) : U64 (bits .or .u64 x y) := by
  obtain ⟨n, rfl, hn⟩ := hx.nat
  obtain ⟨m, rfl, hm⟩ := hy.nat
  rw [bits_or_nat _ _ hn hm]
  exact U64.of_nat (Nat.or_lt_two_pow hn hm)
theorem U64.bits_and {x y : Int} (hx : U64 x) (hy : U64 y) : U64 (bits .and .u64 x y) := by
  obtain ⟨n, rfl, hn⟩ := hx.nat
  obtain ⟨m, rfl, hm⟩ := hy.nat
  rw [bits_and_nat _ _ hn hm]
  exact U64.of_nat (Nat.and_lt_two_pow _ hm)
theorem U64.wrap (x : Int) : U64 (IntKind.u64.wrap x) := by rw [IntKind.wrap_u64]; exact ⟨by omega, by omega⟩

theorem tb_or {x y : Int} (hx : U64 x) (hy : U64 y) (r : Int) : tb (bits .or .u64 x y) r = (tb x r || tb y r) := by
  obtain ⟨n, rfl, hn⟩ := hx.nat
  obtain ⟨m, rfl, hm⟩ := hy.nat
  rw [bits_or_nat _ _ hn hm, tb_nat, tb_nat, tb_nat, Nat.testBit_or]
theorem tb_and {x y : Int} (hx : U64 x) (hy : U64 y) (r : Int) : tb (bits .and .u64 x y) r = (tb x r && tb y r) := by
  obtain ⟨n, rfl, hn⟩ := hx.nat
  obtain ⟨m, rfl, hm⟩ := hy.nat
  rw [bits_and_nat _ _ hn hm, tb_nat, tb_nat, tb_nat, Nat.testBit_and]

theorem tb_pow (r s : Int) (h0 : 0 ≤ r) (h1 : r < 64) (hs : 0 ≤ s) : tb (IntKind.u64.wrap (2 ^ r.toNat)) s = decide (s = r) := by
  have hp : 2 ^ r.toNat < 2 ^ 64 := Nat.pow_lt_pow_right (by omega) (by omega)
  rw [wrap_pow, Nat.mod_eq_of_lt hp, tb_nat, Nat.testBit_two_pow]
  by_cases h : s = r
  · subst h; simp
  · have : ¬ r.toNat = s.toNat := by omega
    simp [h, this]

theorem tb_shl {x : Int} (hx : U64 x) (s r : Int) (hs : 0 ≤ s) (h0 : 0 ≤ r) (h1 : r < 64) : tb (IntKind.u64.wrap (x * 2 ^ s.toNat)) r = (decide (s ≤ r) && tb x (r - s)) := by
  obtain ⟨n, rfl, hn⟩ := hx.nat
  rw [wrap_mul, tb_nat, tb_nat, Nat.testBit_mod_two_pow, Nat.testBit_mul_two_pow]
  have e : (r - s).toNat = r.toNat - s.toNat := by omega
  have a : decide (r.toNat < 64) = true := by simpa using by omega
  have b : decide (r.toNat ≥ s.toNat) = decide (s ≤ r) := by
    by_cases h : s ≤ r
    · simp only [h, decide_true, decide_eq_true_eq]; omega
    · simp only [h, decide_false, decide_eq_false_iff_not]; omega
  rw [e, a, b, Bool.true_and]

theorem U64.div {x : Int} (hx : U64 x) (r : Nat) : U64 (x / 2 ^ r) := by
  obtain ⟨n, rfl, hn⟩ := hx.nat
  rw [div_pow]
  exact U64.of_nat (Nat.lt_of_le_of_lt (Nat.div_le_self _ _) hn)

theorem tb_shr {x : Int} (hx : U64 x) (s r : Int) (hs : 0 ≤ s) (h0 : 0 ≤ r) : tb (x / 2 ^ s.toNat) r = tb x (r + s) := by
  obtain ⟨n, rfl, hn⟩ := hx.nat
  rw [div_pow, tb_nat, tb_nat, Nat.testBit_div_two_pow]
  rw [show (r + s).toNat = r.toNat + s.toNat by omega]

theorem tb_high {x : Int} (hx : U64 x) (r : Int) (h : 64 ≤ r) : tb x r = false := by
  obtain ⟨n, rfl, hn⟩ := hx.nat
  rw [tb_nat]
  exact Nat.testBit_lt_two_pow (Nat.lt_of_lt_of_le hn (Nat.pow_le_pow_right (by omega) (by omega)))

/-- bit j of the whole list -/
def mb (xs : List Int) (j : Int) : Bool := tb (at0 xs (j / 64)) (j % 64)

theorem at0_set (xs : List Int) (c j v : Int) (hc : 0 ≤ c) (hcl : c < xs.length) (hj : 0 ≤ j) : at0 (xs.set c.toNat v) j = if j = c then v else at0 xs j := by
  unfold at0
  rw [List.getD_eq_getElem?_getD, List.getD_eq_getElem?_getD, List.getElem?_set]
  by_cases h : j = c
  · subst h
    rw [if_pos rfl, if_pos rfl, if_pos (by omega)]; rfl
  · rw [if_neg (by omega), if_neg h]

theorem U64L.set {xs : List Int} (h : U64L xs) (k : Nat) {v : Int} (hv : U64 v) : U64L (xs.set k v) := by
  intro x hx
  rcases List.mem_or_eq_of_mem_set hx with h1 | rfl
  · exact h x h1
  · exact hv

def setB (xs : List Int) (i : Int) : List Int := xs.set (i / 64).toNat (bits .or .u64 (at0 xs (i / 64)) (IntKind.u64.wrap (2 ^ (i % 64).toNat)))

theorem setB_ok {xs : List Int} (h : U64L xs) (i : Int) : U64L (setB xs i) := h.set _ ((at0_ok h _).bits_or (U64.wrap _))
theorem setB_length (xs : List Int) (i : Int) : (setB xs i).length = xs.length := by simp [setB]
theorem mb_setB {xs : List Int} (h : U64L xs) (i j : Int) (h0 : 0 ≤ i) (h1 : i / 64 < xs.length) (hj : 0 ≤ j) : mb (setB xs i) j = (decide (j = i) || mb xs j) := by
  unfold mb setB
  rw [at0_set _ _ _ _ (by omega) h1 (by omega)]
  by_cases hc : j / 64 = i / 64
  · rw [if_pos hc, tb_or (at0_ok h _) (U64.wrap _), tb_pow _ _ (by omega) (by omega) (by omega), hc]
    have : decide (j % 64 = i % 64) = decide (j = i) := by
      by_cases e : j = i
      · subst e; simp
      · have : ¬ j % 64 = i % 64 := by omega
        simp [e, this]
    rw [this, Bool.or_comm]
  · have : ¬ j = i := by intro e; subst e; exact hc rfl
    rw [if_neg hc]
    simp [this]

def carV (xs : List Int) (d : Int) (c : Int) : Int :=
  if d / 64 ≤ c then (if d / 64 + 1 ≤ c then bits .or .u64 (IntKind.u64.wrap (at0 xs (c - d / 64) * 2 ^ (d % 64).toNat)) (at0 xs (c - d / 64 - 1) / 2 ^ (64 - d % 64).toNat)
    else IntKind.u64.wrap (at0 xs (c - d / 64) * 2 ^ (d % 64).toNat)) else 0
def shlV (xs : List Int) (d : Int) (c : Int) : Int := bits .or .u64 (IntKind.u64.wrap (at0 xs c * 2 ^ min d.toNat 64)) (carV xs d c)
def shlL (xs : List Int) (d : Int) : List Int := (List.range xs.length).map fun c : Nat => shlV xs d c

theorem carV_ok {xs : List Int} (h : U64L xs) (d c : Int) : U64 (carV xs d c) := by
  unfold carV
  split
  · split
    · exact (U64.wrap _).bits_or ((at0_ok h _).div _)
    · exact U64.wrap _
  · exact U64.zero
theorem shlV_ok {xs : List Int} (h : U64L xs) (d c : Int) : U64 (shlV xs d c) := (U64.wrap _).bits_or (carV_ok h d c)
theorem shlL_ok {xs : List Int} (h : U64L xs) (d : Int) : U64L (shlL xs d) := by
  intro x hx
  simp only [shlL, List.mem_map] at hx
  obtain ⟨c, _, rfl⟩ := hx
  exact shlV_ok h d c
theorem shlL_length (xs : List Int) (d : Int) : (shlL xs d).length = xs.length := by simp [shlL]
theorem at0_shlL (xs : List Int) (d c : Int) (h0 : 0 ≤ c) (h1 : c < xs.length) : at0 (shlL xs d) c = shlV xs d c := by
  unfold at0
  have : c.toNat < xs.length := by omega
  rw [List.getD_eq_getElem?_getD]
  simp only [shlL, List.getElem?_map, List.getElem?_range this, Option.map_some, Option.getD_some]
  rw [Int.toNat_of_nonneg h0]

theorem tb_carV {xs : List Int} (h : U64L xs) (d c r : Int) (h0 : 0 ≤ r) (h1 : r < 64) :
    tb (carV xs d c) r = (decide (d ≤ 64 * c + r) && mb xs (64 * c + r - d)) := by
  unfold carV mb
  by_cases h2 : d / 64 ≤ c
  · rw [if_pos h2]
    by_cases h3 : d / 64 + 1 ≤ c
    · rw [if_pos h3, tb_or (U64.wrap _) ((at0_ok h _).div _), tb_shl (at0_ok h _) _ _ (by omega) h0 h1, tb_shr (at0_ok h _) _ _ (by omega) h0]
      have hd1 : decide (d ≤ 64 * c + r) = true := by simpa using by omega
      rw [hd1, Bool.true_and]
      by_cases h4 : d % 64 ≤ r
      · rw [tb_high (at0_ok h _) (r + (64 - d % 64)) (by omega), Bool.or_false]
        rw [show (64 * c + r - d) / 64 = c - d / 64 by omega, show (64 * c + r - d) % 64 = r - d % 64 by omega]
        simp [h4]
      · rw [show (64 * c + r - d) / 64 = c - d / 64 - 1 by omega, show (64 * c + r - d) % 64 = r + (64 - d % 64) by omega]
        simp [h4]
    · rw [if_neg h3, tb_shl (at0_ok h _) _ _ (by omega) h0 h1]
      by_cases h4 : d % 64 ≤ r
      · have hd1 : decide (d ≤ 64 * c + r) = true := by simpa using by omega
        rw [hd1, Bool.true_and]
        rw [show (64 * c + r - d) / 64 = c - d / 64 by omega, show (64 * c + r - d) % 64 = r - d % 64 by omega]
        simp [h4]
      · have hd1 : decide (d ≤ 64 * c + r) = false := by simpa using by omega
        rw [hd1]
        simp [h4]
  · rw [if_neg h2]
    have hd1 : decide (d ≤ 64 * c + r) = false := by simpa using by omega
    rw [hd1]
    simp [tb]

theorem tb_shlV {xs : List Int} (h : U64L xs) (d c r : Int) (hd : 1 ≤ d) (h0 : 0 ≤ r) (h1 : r < 64) (hc : 0 ≤ c) :
    tb (shlV xs d c) r = (decide (d ≤ 64 * c + r) && mb xs (64 * c + r - d)) := by
  unfold shlV
  rw [tb_or (U64.wrap _) (carV_ok h d c), tb_carV h d c r h0 h1]
  have e : min d.toNat 64 = (min d 64).toNat := by omega
  rw [e, tb_shl (at0_ok h _) _ _ (by omega) h0 h1]
  by_cases h2 : min d 64 ≤ r
  · have h3 : d ≤ r := by omega
    have h4 : min d 64 = d := by omega
    rw [h4]
    have hd1 : decide (d ≤ 64 * c + r) = true := by simpa using by omega
    rw [hd1, Bool.true_and]
    unfold mb
    rw [show (64 * c + r - d) / 64 = c by omega, show (64 * c + r - d) % 64 = r - d by omega]
    simp
  · simp [h2]

theorem mb_shlL {xs : List Int} (h : U64L xs) (d j : Int) (hd : 1 ≤ d) (h0 : 0 ≤ j) (h1 : j < 64 * xs.length) : mb (shlL xs d) j = (decide (d ≤ j) && mb xs (j - d)) := by
  have e : mb (shlL xs d) j = tb (at0 (shlL xs d) (j / 64)) (j % 64) := rfl
  rw [e, at0_shlL _ _ _ (by omega) (by omega), tb_shlV h d _ _ hd (by omega) (by omega) (by omega), show 64 * (j / 64) + j % 64 = j by omega]

/-- the mask of the last word -/
def mskV (win : Int) : Int := IntKind.u64.wrap (IntKind.u64.wrap (2 ^ (64 - win % 64).toNat) - 1)

theorem mskV_ok (win : Int) : U64 (mskV win) := U64.wrap _

theorem tb_mskV (win r : Int) (h0 : 0 ≤ r) (h1 : r < 64) (h2 : r < 64 - win % 64 ∨ win % 64 = 0) : tb (mskV win) r = true := by
  unfold mskV
  have hnn : 0 ≤ win % 64 := Int.emod_nonneg win (by decide)
  rcases Int.lt_or_eq_of_le hnn with h | h
  · have hlt : win % 64 < 64 := Int.emod_lt_of_pos _ (by decide)
    have hp : 2 ^ (64 - win % 64).toNat < 2 ^ 64 := Nat.pow_lt_pow_right (by omega) (by omega)
    have hp1 := Nat.two_pow_pos (64 - win % 64).toNat
    rw [wrap_pow, Nat.mod_eq_of_lt hp]
    have e : (((2 ^ (64 - win % 64).toNat : Nat) : Int) - 1) = ((2 ^ (64 - win % 64).toNat - 1 : Nat) : Int) := by omega
    rw [e, wrap_nat, Nat.mod_eq_of_lt (by omega), tb_nat, Nat.testBit_two_pow_sub_one]
    simp only [decide_eq_true_eq]; omega
  · rw [← h]
    have e : IntKind.u64.wrap (IntKind.u64.wrap (2 ^ ((64 : Int) - 0).toNat) - 1) = ((2 ^ 64 - 1 : Nat) : Int) := by decide
    rw [e, tb_nat, Nat.testBit_two_pow_sub_one]
    simp only [decide_eq_true_eq]; omega

/-- the list behind a shift -/
def lshL (xs : List Int) (win d : Int) : List Int := (shlL xs d).set (xs.length - 1) (bits .and .u64 (at0 (shlL xs d) ((xs.length : Int) - 1)) (mskV win))

theorem lshL_ok {xs : List Int} (h : U64L xs) (win d : Int) : U64L (lshL xs win d) := (shlL_ok h d).set _ ((at0_ok (shlL_ok h d) _).bits_and (mskV_ok win))
theorem lshL_length (xs : List Int) (win d : Int) : (lshL xs win d).length = xs.length := by simp [lshL, shlL_length]
theorem mb_lshL {xs : List Int} (h : U64L xs) (win d j : Int) (hw : 1 ≤ win) (hm : win % 64 ≤ 32) (hl : (xs.length : Int) = (win + 63) / 64) (hd : 1 ≤ d) (h0 : 0 ≤ j) (h1 : j < win) :
    mb (lshL xs win d) j = (decide (d ≤ j) && mb xs (j - d)) := by
  rw [← mb_shlL h d j hd h0 (by omega)]
  unfold mb lshL
  have e : xs.length - 1 = ((xs.length : Int) - 1).toNat := by omega
  rw [e, at0_set _ _ _ _ (by omega) (by rw [shlL_length]; omega) (by omega)]
  by_cases hc : j / 64 = (xs.length : Int) - 1
  · rw [if_pos hc, tb_and (at0_ok (shlL_ok h d) _) (mskV_ok win), tb_mskV win _ (by omega) (by omega) (by omega), Bool.and_true, hc]
  · rw [if_neg hc]

end Go.Proofs.Ytklihfjchomkmaa
