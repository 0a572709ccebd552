/-
  Plain arithmetic, no Go in sight: the bit length; powers of two; one step of the schoolbook division by two digits (bits.Div64's two loops); the multiplication by ceil(2^(63+l) / d) that divides by d.
-/
import Derived.Lib.BitFns
import Derived.Lib.TrailingZeros
import Derived.Laws.BitsAllLaws
namespace Go.Proofs.YbulkdlkuDoorR.Plain

/-! ### The bit length -/
theorem aux_bounds : ∀ (f x : Nat), 0 < x → x < 2 ^ f → 2 ^ (Lib.bitLenAux f x - 1) ≤ x ∧ x < 2 ^ Lib.bitLenAux f x ∧ 1 ≤ Lib.bitLenAux f x
  | 0, x, h0, h => by simp at h; omega
  | f + 1, x, h0, h => by
    have hx : x ≠ 0 := by omega
    have e : Lib.bitLenAux (f + 1) x = 1 + Lib.bitLenAux f (x / 2) := by simp [Lib.bitLenAux, hx]
    by_cases h1 : x = 1
    · subst h1
      have e0 : Lib.bitLenAux f (1 / 2) = 0 := by
        cases f <;> simp [Lib.bitLenAux]
      rw [e, e0]; decide
    · have hp : 2 ^ (f + 1) = 2 * 2 ^ f := by rw [Nat.pow_succ]; omega
      obtain ⟨a, b, c⟩ := aux_bounds f (x / 2) (by omega) (by omega)
      obtain ⟨n, hn⟩ : ∃ n, Lib.bitLenAux f (x / 2) = n + 1 := ⟨Lib.bitLenAux f (x / 2) - 1, by omega⟩
      rw [e, hn]
      rw [hn] at a b
      have q1 : 1 + (n + 1) - 1 = n + 1 := by omega
      have q2 : n + 1 - 1 = n := by omega
      have q3 : 1 + (n + 1) = n + 1 + 1 := by omega
      rw [q1, q3]
      rw [q2] at a
      have p1 : 2 ^ (n + 1) = 2 * 2 ^ n := by rw [Nat.pow_succ]; omega
      have p2 : 2 ^ (n + 1 + 1) = 2 * 2 ^ (n + 1) := by rw [Nat.pow_succ 2 (n + 1)]; omega
      exact ⟨by omega, by omega, by omega⟩

theorem len_bounds (x : Nat) (h0 : 0 < x) (h : x < 18446744073709551616) : 2 ^ (Lib.bitLen x - 1) ≤ x ∧ x < 2 ^ Lib.bitLen x ∧ 1 ≤ Lib.bitLen x :=
  aux_bounds 64 x h0 h

/-! ### Powers of two -/
theorem and_pred (k m : Nat) : (2 ^ k * (2 * m + 1)) &&& (2 ^ k * (2 * m + 1) - 1) = 2 ^ (k + 1) * m := by
  have hp : 0 < 2 ^ k := Nat.two_pow_pos k
  have hs : 2 ^ (k + 1) = 2 * 2 ^ k := by rw [Nat.pow_succ]; omega
  have e1 : 2 ^ k * (2 * m + 1) = 2 ^ (k + 1) * m + 2 ^ k := by rw [hs, Nat.mul_add, Nat.mul_one, Nat.mul_left_comm, Nat.mul_assoc]
  have e2 : 2 ^ k * (2 * m + 1) - 1 = 2 ^ (k + 1) * m + (2 ^ k - 1) := by omega
  have j1 : 2 ^ (k + 1) * m ||| 2 ^ k = 2 ^ (k + 1) * m + 2 ^ k := nat_join (k + 1) _ _ (Nat.mul_mod_right _ _) (by omega)
  have j2 : 2 ^ (k + 1) * m ||| (2 ^ k - 1) = 2 ^ (k + 1) * m + (2 ^ k - 1) := nat_join (k + 1) _ _ (Nat.mul_mod_right _ _) (by omega)
  rw [e2, e1, ← j1, ← j2, ← Nat.or_and_distrib_left, Nat.and_two_pow_sub_one_eq_mod, Nat.mod_self, Nat.or_zero]

/-- d & (d - 1) is 0 just where d is the power of two that its trailing zeros name. -/
theorem pow_of_and (d : Nat) (h0 : 0 < d) (h : d < 18446744073709551616) (ha : d &&& (d - 1) = 0) : d = 2 ^ Lib.ctz 64 d ∧ Lib.ctz 64 d < 64 := by
  obtain ⟨hl, hk⟩ := Lib.lowest_bit 64 d (by omega) h
  obtain ⟨m, hm, _⟩ := Lib.ctzFrom_spec 64 d h0 h
  have hc : Lib.ctz 64 d = Lib.ctzFrom 64 d := by unfold Lib.ctz; first | rfl | (rw [if_neg (by omega)]) | simp
  refine ⟨?_, hk⟩
  rw [hc]
  have hp : 0 < 2 ^ (Lib.ctzFrom 64 d + 1) := Nat.two_pow_pos _
  have hz : 2 ^ (Lib.ctzFrom 64 d + 1) * m = 0 := by
    rw [← and_pred, ← hm]; exact ha
  have hm0 : m = 0 := by
    rcases Nat.mul_eq_zero.1 hz with h' | h'
    · omega
    · exact h'
  rw [hm0] at hm
  simpa using hm

theorem and_of_pow (k : Nat) : (2 ^ k) &&& (2 ^ k - 1) = 0 := by
  rw [Nat.and_two_pow_sub_one_eq_mod, Nat.mod_self]

/-- d no power of two: its bit length l has 2^(l-1) < d < 2^l, and 2 ≤ l. -/
theorem len_strict (d : Nat) (h0 : 0 < d) (h : d < 18446744073709551616) (ha : ¬ (d &&& (d - 1) = 0)) :
    2 ^ (Lib.bitLen d - 1) < d ∧ d < 2 ^ Lib.bitLen d ∧ 2 ≤ Lib.bitLen d := by
  obtain ⟨a, b, c⟩ := len_bounds d h0 h
  have hne : d ≠ 2 ^ (Lib.bitLen d - 1) := by
    intro e
    apply ha
    rw [e]
    exact and_of_pow _
  refine ⟨by omega, b, ?_⟩
  by_cases h1 : Lib.bitLen d = 1
  · rw [h1] at b hne; simp at b hne; omega
  · omega

/-! ### Division by a multiplication -/
theorem magic_div (d l M n : Nat) (_h1 : 2 ^ (l - 1) < d) (h2 : d < 2 ^ l) (hd : 0 < d) (hn : n < 2 ^ 63)
    (hM1 : 2 ^ (63 + l) ≤ M * d) (hM2 : M * d < 2 ^ (63 + l) + d) : n * M / 2 ^ (63 + l) = n / d := by
  obtain ⟨e, he⟩ : ∃ e, M * d = 2 ^ (63 + l) + e := ⟨M * d - 2 ^ (63 + l), by omega⟩
  have hed : e < d := by omega
  have hN : 0 < 2 ^ (63 + l) := Nat.two_pow_pos _
  have hne : n * e < 2 ^ (63 + l) := by
    rw [Nat.pow_add]
    exact Nat.mul_lt_mul_of_le_of_lt (Nat.le_of_lt hn) (by omega) (by omega)
  have hk := Nat.div_add_mod n d
  have hr := Nat.mod_lt n hd
  have e1 : n * M * d = n * 2 ^ (63 + l) + n * e := by rw [Nat.mul_assoc, he, Nat.mul_add]
  generalize 2 ^ (63 + l) = N at *
  generalize n / d = k at *
  generalize n % d = r at *
  apply Nat.div_eq_of_lt_le
  · -- k * N ≤ n * M
    apply Nat.le_of_mul_le_mul_right (c := d) _ hd
    rw [e1]
    calc k * N * d = (d * k) * N := by rw [Nat.mul_right_comm, Nat.mul_comm k d]
      _ ≤ n * N := Nat.mul_le_mul_right _ (by omega)
      _ ≤ n * N + n * e := Nat.le_add_right _ _
  · apply Nat.lt_of_mul_lt_mul_right (a := d)
    rw [e1]
    have hn1 : n + 1 ≤ d * (k + 1) := by rw [Nat.mul_add]; omega
    calc n * N + n * e < n * N + N := by omega
      _ = (n + 1) * N := by rw [Nat.add_mul, Nat.one_mul]
      _ ≤ d * (k + 1) * N := Nat.mul_le_mul_right _ hn1
      _ = (k + 1) * N * d := by rw [Nat.mul_comm d, Nat.mul_right_comm]

/-- The magic number: ceil(2^(63+l) / d); it lies below 2^64. -/
theorem magic_ceil (d l q r : Nat) (h1 : 2 ^ (l - 1) < d) (h2 : d < 2 ^ l) (hl : 1 ≤ l) (hl2 : l ≤ 64) (hq : q = 2 ^ (63 + l) / d) (hr : r = 2 ^ (63 + l) % d) :
    (r ≠ 0 → 2 ^ (63 + l) ≤ (q + 1) * d ∧ (q + 1) * d < 2 ^ (63 + l) + d ∧ q + 1 < 18446744073709551616) ∧
    (r = 0 → 2 ^ (63 + l) ≤ q * d ∧ q * d < 2 ^ (63 + l) + d ∧ q < 18446744073709551616) ∧ 0 < q ∧ q < 18446744073709551616 := by
  have hd : 0 < d := Nat.lt_of_le_of_lt (Nat.zero_le _) h1
  have hN : 2 ^ (63 + l) = 18446744073709551616 * 2 ^ (l - 1) := by
    have : (18446744073709551616 : Nat) = 2 ^ 64 := rfl
    rw [this, ← Nat.pow_add]; congr 1; omega
  have hl64 : 2 ^ l ≤ 18446744073709551616 := Nat.pow_le_pow_right (n := 2) (j := 64) (by omega) hl2
  have hdm := Nat.div_add_mod (2 ^ (63 + l)) d
  have hlt := Nat.mod_lt (2 ^ (63 + l)) hd
  rw [← hq, ← hr] at hdm
  rw [← hr] at hlt
  have hb : ∀ M, M * d < 2 ^ (63 + l) + d → M < 18446744073709551616 := by
    intro M hM
    rcases Nat.lt_or_ge M 18446744073709551616 with h | h
    · exact h
    · have : 18446744073709551616 * (2 ^ (l - 1) + 1) ≤ M * d := Nat.mul_le_mul h h1
      rw [Nat.mul_add, ← hN] at this
      omega
  have e1 : (q + 1) * d = d * q + d := by rw [Nat.add_mul, Nat.one_mul, Nat.mul_comm]
  have e2 : q * d = d * q := Nat.mul_comm _ _
  have hq0 : 0 < q := by
    rw [hq]
    apply Nat.div_pos _ hd
    have : 2 ^ l ≤ 2 ^ (63 + l) := Nat.pow_le_pow_right (by omega) (by omega)
    omega
  refine ⟨fun h => ?_, fun h => ?_, hq0, hb q (by omega)⟩
  · have hlt' : (q + 1) * d < 2 ^ (63 + l) + d := by omega
    exact ⟨by omega, hlt', hb _ hlt'⟩
  · have hlt' : q * d < 2 ^ (63 + l) + d := by omega
    exact ⟨by omega, hlt', hb _ hlt'⟩

/-! ### One digit of the schoolbook division -/
/-- The state of the correction loop: u = q * a + r; the true digit is not above q; q is at most 2^32 + 1. (y = a * 2^32 + b.) -/
structure Dig (u a b n q r : Nat) : Prop where
  eq : u = q * a + r
  ge : (u * 4294967296 + n) / (a * 4294967296 + b) ≤ q
  le : q ≤ 4294967297
  rl : r < 4294967296

theorem Dig.start (u a b n : Nat) (ha : 2147483648 ≤ a) (ha' : a < 4294967296) (hb : b < 4294967296) (hn : n < 4294967296) (hu : u < a * 4294967296 + b) : Dig u a b n (u / a) (u % a) := by
  have hm := Nat.div_add_mod u a
  have hlt := Nat.mod_lt u (show 0 < a by omega)
  have hy : 0 < a * 4294967296 + b := by omega
  refine ⟨by rw [Nat.mul_comm]; exact hm.symm, ?_, ?_, by omega⟩
  · -- (u * B + n) / y ≤ u / a
    apply Nat.le_of_lt_succ
    apply (Nat.div_lt_iff_lt_mul hy).2
    have h1 : u + 1 ≤ (u / a + 1) * a := by rw [Nat.add_mul, Nat.one_mul, Nat.mul_comm]; omega
    have h2 : (u + 1) * 4294967296 ≤ (u / a + 1) * a * 4294967296 := Nat.mul_le_mul_right _ h1
    have h3 : (u / a).succ * (a * 4294967296 + b) = (u / a + 1) * a * 4294967296 + (u / a + 1) * b := by
      rw [Nat.succ_eq_add_one, Nat.mul_add, Nat.mul_assoc]
    rw [h3]
    omega
  · apply Nat.le_of_lt_succ
    apply (Nat.div_lt_iff_lt_mul (show 0 < a by omega)).2
    have : Nat.succ 4294967297 * a = a * 4294967296 + 2 * a := by omega
    omega

/-- The test says no: the digit is found. -/
theorem Dig.done {u a b n q r : Nat} (h : Dig u a b n q r) (ha : 0 < a) (ht : q * b ≤ 4294967296 * r + n) : q = (u * 4294967296 + n) / (a * 4294967296 + b) := by
  have hy : 0 < a * 4294967296 + b := by omega
  apply Nat.le_antisymm _ h.ge
  apply (Nat.le_div_iff_mul_le hy).2
  have e : q * (a * 4294967296 + b) = q * a * 4294967296 + q * b := by rw [Nat.mul_add, Nat.mul_assoc]
  have e2 : u * 4294967296 = q * a * 4294967296 + r * 4294967296 := by rw [← Nat.add_mul, ← h.eq]
  rw [e, e2]
  omega

/-- The test says yes: q is above the digit; one less is still not below it. -/
theorem Dig.step {u a b n q r : Nat} (h : Dig u a b n q r) (_hb : b < 4294967296) (hu : u < a * 4294967296 + b) (hn : n < 4294967296)
    (ht : 4294967296 ≤ q ∨ 4294967296 * r + n < q * b) : 1 ≤ q ∧ u = (q - 1) * a + (r + a) ∧ (u * 4294967296 + n) / (a * 4294967296 + b) ≤ q - 1 ∧ q - 1 ≤ 4294967296 := by
  have hy : 0 < a * 4294967296 + b := by omega
  have hq : 1 ≤ q := by
    rcases ht with ht | ht
    · omega
    · rcases Nat.eq_zero_or_pos q with h0 | h0
      · subst h0; omega
      · exact h0
  obtain ⟨p, rfl⟩ : ∃ p, q = p + 1 := ⟨q - 1, by omega⟩
  have hlt : (u * 4294967296 + n) / (a * 4294967296 + b) < p + 1 := by
    rcases ht with ht | ht
    · apply Nat.lt_of_lt_of_le _ ht
      apply (Nat.div_lt_iff_lt_mul hy).2
      have : (u + 1) * 4294967296 ≤ (a * 4294967296 + b) * 4294967296 := Nat.mul_le_mul_right _ hu
      omega
    · apply (Nat.div_lt_iff_lt_mul hy).2
      have e : (p + 1) * (a * 4294967296 + b) = (p + 1) * a * 4294967296 + (p + 1) * b := by rw [Nat.mul_add, Nat.mul_assoc]
      have e2 : u * 4294967296 = (p + 1) * a * 4294967296 + r * 4294967296 := by rw [← Nat.add_mul, ← h.eq]
      rw [e, e2]
      omega
  have hle := h.le
  have heq := h.eq
  rw [Nat.add_mul, Nat.one_mul] at heq
  have q1 : p + 1 - 1 = p := by omega
  rw [q1]
  exact ⟨by omega, by omega, by omega, by omega⟩

/-- Behind a step: still below 2^32: the loop goes on. -/
theorem Dig.next {u a b n q r : Nat} (h : Dig u a b n q r) (hb : b < 4294967296) (hu : u < a * 4294967296 + b) (hn : n < 4294967296)
    (ht : 4294967296 ≤ q ∨ 4294967296 * r + n < q * b) (hr : r + a < 4294967296) : Dig u a b n (q - 1) (r + a) := by
  obtain ⟨_, e, g, l⟩ := h.step hb hu hn ht
  exact ⟨e, g, by omega, hr⟩

/-- Behind a step: 2^32 is reached: the digit is found. -/
theorem Dig.leave {u a b n q r : Nat} (h : Dig u a b n q r) (hb : b < 4294967296) (hu : u < a * 4294967296 + b) (hn : n < 4294967296)
    (ht : 4294967296 ≤ q ∨ 4294967296 * r + n < q * b) (hr : 4294967296 ≤ r + a) : q - 1 = (u * 4294967296 + n) / (a * 4294967296 + b) := by
  obtain ⟨_, e, g, l⟩ := h.step hb hu hn ht
  have hy : 0 < a * 4294967296 + b := by omega
  apply Nat.le_antisymm _ g
  apply (Nat.le_div_iff_mul_le hy).2
  have e1 : (q - 1) * (a * 4294967296 + b) = (q - 1) * a * 4294967296 + (q - 1) * b := by rw [Nat.mul_add, Nat.mul_assoc]
  have e2 : u * 4294967296 = (q - 1) * a * 4294967296 + (r + a) * 4294967296 := by rw [← Nat.add_mul, ← e]
  have e3 : (q - 1) * b ≤ 4294967296 * 4294967296 := Nat.mul_le_mul l (by omega)
  have e4 : 4294967296 * 4294967296 ≤ (r + a) * 4294967296 := Nat.mul_le_mul_right _ hr
  rw [e1, e2]
  omega

/-- The digit is below 2^32. -/
theorem dig_lt (u a b n : Nat) (hu : u < a * 4294967296 + b) (hn : n < 4294967296) : (u * 4294967296 + n) / (a * 4294967296 + b) < 4294967296 := by
  apply (Nat.div_lt_iff_lt_mul (by omega)).2
  have : (u + 1) * 4294967296 ≤ (a * 4294967296 + b) * 4294967296 := Nat.mul_le_mul_right _ hu
  omega

end Go.Proofs.YbulkdlkuDoorR.Plain
