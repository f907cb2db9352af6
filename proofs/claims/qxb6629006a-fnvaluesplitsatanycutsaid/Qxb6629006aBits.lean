/-
  PLAIN: the number that a list of bits makes; a literal's truth; no Go in sight but 'bits' (the model's word for '&' and '^').
-/
import Derived.Laws.BitsAllLaws
namespace Go.Proofs.Qxb6629006a
set_option linter.unusedSimpArgs false
set_option linter.unusedVariables false

/-- The number whose bit i is the list's i-th. -/
def num : List Bool → Nat
  | [] => 0
  | b :: r => b.toNat + 2 * num r

theorem num_bit : ∀ (l : List Bool) (i : Nat), (num l).testBit i = l.getD i false
  | [], i => by simp [num]
  | b :: r, 0 => by cases b <;> simp [num, Nat.testBit_zero] <;> omega
  | b :: r, i + 1 => by
    have h : (b.toNat + 2 * num r) / 2 = num r := by cases b <;> simp <;> omega
    rw [num, Nat.testBit_add_one, h, num_bit r i]
    simp

theorem num_lt : ∀ (l : List Bool), num l < 2 ^ l.length
  | [] => by simp [num]
  | b :: r => by
    have := num_lt r
    have e : 2 ^ (b :: r).length = 2 * 2 ^ r.length := by simp [Nat.pow_succ]; omega
    rw [num, e]
    cases b <;> simp <;> omega

theorem num_snoc (l : List Bool) (b : Bool) : num (l ++ [b]) = num l ||| (if b then 2 ^ l.length else 0) := by
  apply Nat.eq_of_testBit_eq
  intro i
  rw [num_bit, Nat.testBit_or, num_bit]
  cases b
  · simp [List.getD_eq_getElem?_getD, List.getElem?_append]
    by_cases h : i < l.length
    · simp [h]
    · simp [h]
      have : i - l.length = 0 ∨ ∃ j, i - l.length = j + 1 := by
        cases i - l.length
        · exact .inl rfl
        · exact .inr ⟨_, rfl⟩
      rcases this with e | ⟨j, e⟩ <;> simp [e]
  · simp only [if_true, Nat.testBit_two_pow]
    by_cases h : i < l.length
    · have : ¬ l.length = i := by omega
      simp [List.getD_eq_getElem?_getD, List.getElem?_append, h, this]
    · by_cases e : i = l.length
      · subst e; simp [List.getD_eq_getElem?_getD]
      · have h1 : ¬ l.length = i := by omega
        have h2 : (l ++ [true]).length ≤ i := by simp; omega
        have h3 : l.length ≤ i := by omega
        simp [List.getD_eq_getElem?_getD, List.getElem?_eq_none h2, List.getElem?_eq_none h3, h1]

theorem num_not (l : List Bool) : num (l.map (!·)) = num l ^^^ (2 ^ l.length - 1) := by
  apply Nat.eq_of_testBit_eq
  intro i
  rw [num_bit, Nat.testBit_xor, num_bit, Nat.testBit_two_pow_sub_one]
  by_cases h : i < l.length
  · simp [List.getD_eq_getElem?_getD, h]
  · have h3 : l.length ≤ i := by omega
    simp [List.getD_eq_getElem?_getD, List.getElem?_eq_none h3, h]

/-! ### '& 1' and '^ 1' on an int32 -/
theorem wrap_i32' (n : Int) : IntKind.i32.wrap n = if 2147483648 ≤ n % 4294967296 then n % 4294967296 - 4294967296 else n % 4294967296 := by
  simp [IntKind.wrap, IntKind.bits, IntKind.signed]

theorem ofInt32 (f : Int) : ((BitVec.ofInt 32 f).toNat : Int) = f % 4294967296 := by
  simp [BitVec.toNat_ofInt]
  omega

theorem and_one (f : Int) : bits .and .i32 f 1 = f % 2 := by
  show IntKind.i32.wrap ((BitVec.ofInt 32 f &&& BitVec.ofInt 32 1).toNat : Int) = _
  have h1 : (BitVec.ofInt 32 1).toNat = 1 := by decide
  have h2 := ofInt32 f
  rw [BitVec.toNat_and, h1, Nat.and_one_is_mod, wrap_i32']
  split <;> omega

theorem nat_xor_one (x : Nat) : x ^^^ 1 = if x % 2 = 0 then x + 1 else x - 1 := by
  have h1 : (x ^^^ 1) / 2 = x / 2 := by rw [Nat.xor_div_two]; simp
  have h2 : (x ^^^ 1) % 2 = (x + 1) % 2 := by
    have := Nat.xor_mod_two_eq_one (a := x) (b := 1)
    omega
  split <;> omega

theorem xor_one (f : Int) (h0 : -2147483648 ≤ f) (h1 : f ≤ 2147483647) : bits .xor .i32 f 1 = if f % 2 = 0 then f + 1 else f - 1 := by
  show IntKind.i32.wrap ((BitVec.ofInt 32 f ^^^ BitVec.ofInt 32 1).toNat : Int) = _
  have e1 : (BitVec.ofInt 32 1).toNat = 1 := by decide
  have h2 := ofInt32 f
  rw [BitVec.toNat_xor, e1, nat_xor_one, wrap_i32']
  generalize (BitVec.ofInt 32 f).toNat = x at *
  split <;> split <;> split <;> omega

/-! ### the truth of a literal; the value of a word -/
def bitv (lk : Int → Bool) (f : Int) : Bool :=
  if (f == 1) = true then true else if (bits .and .i32 f 1 == 0) = true then lk f else !lk (bits .xor .i32 f 1)
def notI (f : Int) : Int := bits .xor .i32 f 1
def Fits (f : Int) : Prop := -2147483648 ≤ f ∧ f ≤ 2147483647
theorem fits_not {f : Int} (h : Fits f) : Fits (notI f) := by
  obtain ⟨h0, h1⟩ := h
  unfold notI Fits
  rw [xor_one f h0 h1]
  split <;> omega

theorem bitv_not (lk : Int → Bool) (h0 : lk 0 = false) (f : Int) (hf : Fits f) : bitv lk (notI f) = !bitv lk f := by
  have hn := fits_not hf
  obtain ⟨a, b⟩ := hf
  have e : notI f = if f % 2 = 0 then f + 1 else f - 1 := xor_one f a b
  have e2 : bits .xor .i32 (notI f) 1 = f := by
    rw [xor_one _ hn.1 hn.2, e]
    split <;> split <;> omega
  unfold bitv
  rw [and_one, and_one, e2]
  simp only [beq_iff_eq]
  change _ = !(if f = 1 then true else if f % 2 = 0 then lk f else !lk (notI f))
  by_cases hp : f % 2 = 0
  · rw [if_pos hp] at e
    by_cases hz : f = 0
    · subst hz; rw [e]; simp [h0]
    · have k1 : ¬ notI f = 1 := by omega
      have k2 : ¬ notI f % 2 = 0 := by omega
      have k3 : ¬ f = 1 := by omega
      simp [k1, k2, k3, hp]
  · rw [if_neg hp] at e
    have k1 : ¬ notI f = 1 := by omega
    have k2 : notI f % 2 = 0 := by omega
    by_cases h1 : f = 1
    · have k3 : notI f = 0 := by omega
      rw [k3]; simp [h0, h1]
    · simp [k1, k2, hp, h1]

/-- The value of a word: its first 64 literals. -/
def val (lk : Int → Bool) (zs : List Int) : Nat := num ((zs.take 64).map (bitv lk))

theorem val_lt (lk : Int → Bool) (zs : List Int) : val lk zs < 18446744073709551616 := by
  have h := num_lt ((zs.take 64).map (bitv lk))
  have h2 : 2 ^ ((zs.take 64).map (bitv lk)).length ≤ 2 ^ 64 := Nat.pow_le_pow_right (by omega) (by simp; omega)
  unfold val
  omega

theorem val_snoc (lk : Int → Bool) (zs : List Int) (k : Nat) (hk : k < zs.length) (h64 : k < 64) :
    val lk (zs.take (k + 1)) = val lk (zs.take k) ||| (if bitv lk (zs.getD k 0) then 2 ^ k else 0) := by
  unfold val
  rw [List.take_take, List.take_take, Nat.min_eq_right (by omega), Nat.min_eq_right (by omega), List.take_succ_eq_append_getElem hk, List.map_append, List.map_singleton, num_snoc]
  have e : zs.getD k 0 = zs[k] := by simp [List.getD_eq_getElem?_getD, hk]
  rw [e]
  simp [Nat.min_eq_left (Nat.le_of_lt hk)]

theorem val_take64 (lk : Int → Bool) (zs : List Int) : val lk (zs.take 64) = val lk zs := by
  unfold val; rw [List.take_take]; simp

/-- zzLowMask -/
def low (n : Nat) : Nat := 2 ^ min n 64 - 1
theorem low_lt (n : Nat) : low n < 18446744073709551616 := by
  have h2 : 2 ^ min n 64 ≤ 2 ^ 64 := Nat.pow_le_pow_right (by omega) (by omega)
  unfold low
  have : 0 < 2 ^ min n 64 := Nat.two_pow_pos _
  omega

theorem val_bit (lk : Int → Bool) (zs : List Int) (i : Nat) : (val lk zs).testBit i = (decide (i < 64) && (zs.map (bitv lk)).getD i false) := by
  unfold val
  rw [num_bit]
  by_cases h : i < 64
  · simp [List.getD_eq_getElem?_getD, h, List.getElem?_take]
  · simp [List.getD_eq_getElem?_getD, h, List.getElem?_take]

theorem low_bit (n i : Nat) : (low n).testBit i = (decide (i < n) && decide (i < 64)) := by
  unfold low
  rw [Nat.testBit_two_pow_sub_one]
  by_cases h : i < n <;> by_cases h' : i < 64 <;> simp [h, h'] <;> omega

/-- THE FIRST LAW, PLAIN. -/
theorem val_not (lk : Int → Bool) (h0 : lk 0 = false) (zs : List Int) (hz : ∀ f ∈ zs, Fits f) : val lk (zs.map notI) = val lk zs ^^^ low zs.length := by
  apply Nat.eq_of_testBit_eq
  intro i
  rw [Nat.testBit_xor, val_bit, val_bit, low_bit]
  by_cases h : i < zs.length
  · have hb := bitv_not lk h0 zs[i] (hz _ (List.getElem_mem h))
    simp [List.getD_eq_getElem?_getD, h, hb]
    cases decide (i < 64) <;> simp
  · have h3 : zs.length ≤ i := by omega
    simp [List.getD_eq_getElem?_getD, h]

/-- THE SECOND LAW, PLAIN: the join. -/
theorem val_join (lk : Int → Bool) (zs : List Int) (k : Nat) (hk : k ≤ zs.length) (h64 : k < 64) :
    val lk zs = val lk (zs.take k) ||| (val lk (zs.drop k) * 2 ^ k % 18446744073709551616) := by
  apply Nat.eq_of_testBit_eq
  intro i
  have e : (18446744073709551616 : Nat) = 2 ^ 64 := by decide
  rw [Nat.testBit_or, e, Nat.testBit_mod_two_pow, Nat.mul_comm, Nat.testBit_two_pow_mul, val_bit, val_bit, val_bit]
  by_cases h : i < 64
  · by_cases hik : i < k
    · have h1 : ¬ k ≤ i := by omega
      simp [List.getD_eq_getElem?_getD, h, hik, h1, List.getElem?_take]
    · have h1 : k ≤ i := by omega
      have h2 : i - k < 64 := by omega
      have h3 : k + (i - k) = i := by omega
      simp [List.getD_eq_getElem?_getD, h, hik, h1, h2, h3, List.getElem?_take, List.getElem?_drop]
  · simp [h]

theorem val_join_far (lk : Int → Bool) (zs : List Int) (k : Nat) (h64 : 64 ≤ k) : val lk (zs.take k) = val lk zs := by
  unfold val
  rw [List.take_take, Nat.min_eq_left h64]

/-- THE SECOND LAW, PLAIN: the flip. -/
theorem val_flip (lk : Int → Bool) (h0 : lk 0 = false) (zs : List Int) (hz : ∀ f ∈ zs, Fits f) (k : Nat) (hk : k ≤ zs.length) :
    val lk (zs.take k ++ (zs.drop k).map notI) = val lk zs ^^^ (low zs.length &&& (18446744073709551615 - low k)) := by
  apply Nat.eq_of_testBit_eq
  intro i
  have e : 18446744073709551615 - low k = 2 ^ 64 - (low k + 1) := by omega
  have hl := low_lt k
  rw [Nat.testBit_xor, Nat.testBit_and, e, Nat.testBit_two_pow_sub_succ (by omega), val_bit, val_bit, low_bit, low_bit]
  have hlen : min k zs.length = k := by omega
  by_cases hik : i < k
  · have hi : i < zs.length := by omega
    simp [List.getD_eq_getElem?_getD, hik, List.getElem?_append, List.getElem?_take, hlen, hi]
  · by_cases h : i < zs.length
    · have hb := bitv_not lk h0 zs[i] (hz _ (List.getElem_mem h))
      have h3 : k + (i - k) = i := by omega
      simp [List.getD_eq_getElem?_getD, hik, List.getElem?_append, hlen, List.getElem?_drop, h3, h, hb]
      cases decide (i < 64) <;> simp
    · have h3 : k + (i - k) = i := by omega
      simp [List.getD_eq_getElem?_getD, hik, List.getElem?_append, hlen, List.getElem?_drop, h3, h]

end Go.Proofs.Qxb6629006a
