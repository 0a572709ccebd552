/-
  The walks over bp160's choose, zzs5624bpick and LawS5624BWhole; the plain law: choosing by a mask, bit by bit.
-/
import Derived.Test.YbulkdlliRows
import Derived.WalkKit
import Derived.WalkSpells
import Derived.WalkLawsBesides
import Derived.ProofKit
import Derived.RowKit3
namespace Go.Proofs.Ybulkdlli
open Go.RowKit

/-! ### The plain law, on numbers below 2^64 -/
theorem nat_pick (m x y : Nat) (hm : m < 18446744073709551616) (hy : y < 18446744073709551616) :
    y ^^^ (m &&& (x ^^^ y)) = (x &&& m) ||| (y &&& (18446744073709551615 - m)) := by
  apply Nat.eq_of_testBit_eq
  intro i
  have e : 18446744073709551615 - m = 2 ^ 64 - (m + 1) := by omega
  rw [e, Nat.testBit_xor, Nat.testBit_and, Nat.testBit_xor, Nat.testBit_or, Nat.testBit_and, Nat.testBit_and, Nat.testBit_two_pow_sub_succ (by omega)]
  by_cases hi : i < 64
  · simp only [hi, decide_true, Bool.true_and]
    cases m.testBit i <;> cases x.testBit i <;> cases y.testBit i <;> rfl
  · have h1 : m.testBit i = false := Nat.testBit_lt_two_pow (Nat.lt_of_lt_of_le (show m < 2 ^ 64 from hm) (Nat.pow_le_pow_right (by omega) (by omega)))
    have h2 : y.testBit i = false := Nat.testBit_lt_two_pow (Nat.lt_of_lt_of_le (show y < 2 ^ 64 from hy) (Nat.pow_le_pow_right (by omega) (by omega)))
    simp [h1, h2]

/-- Each bit from a where m has a one, from b where m has a zero. -/
def pk (m a b : Int) : Int := bits .or .u64 (bits .and .u64 a m) (bits .andNot .u64 b m)

theorem choose_is (m x y : Int) (m0 : 0 ≤ m) (m1 : m < 18446744073709551616) (x0 : 0 ≤ x) (x1 : x < 18446744073709551616) (y0 : 0 ≤ y) (y1 : y < 18446744073709551616) :
    bits .xor .u64 y (bits .and .u64 m (bits .xor .u64 x y)) = pk m x y := by
  obtain ⟨m, rfl⟩ := Int.eq_ofNat_of_zero_le m0
  obtain ⟨x, rfl⟩ := Int.eq_ofNat_of_zero_le x0
  obtain ⟨y, rfl⟩ := Int.eq_ofNat_of_zero_le y0
  have hm : m < 18446744073709551616 := by omega
  have hx : x < 18446744073709551616 := by omega
  have hy : y < 18446744073709551616 := by omega
  have b1 : x ^^^ y < 2 ^ 64 := Nat.xor_lt_two_pow hx hy
  have b2 : m &&& (x ^^^ y) < 2 ^ 64 := Nat.and_lt_two_pow _ b1
  have b3 : x &&& m < 2 ^ 64 := Nat.and_lt_two_pow _ hm
  have b4 : y &&& (18446744073709551615 - m) < 2 ^ 64 := Nat.and_lt_two_pow _ (by omega)
  unfold pk
  rw [u64_xor_nat x y hx hy, u64_and_nat m _ hm b1, u64_xor_nat y _ hy b2, u64_and_nat x m hx hm, u64_andNot_nat y m hy hm, u64_or_nat _ _ b3 b4, nat_pick m x y hm hy]

theorem pk_all (x y : Int) (x0 : 0 ≤ x) (x1 : x < 18446744073709551616) (y0 : 0 ≤ y) (y1 : y < 18446744073709551616) : pk 18446744073709551615 x y = x := by
  obtain ⟨x, rfl⟩ := Int.eq_ofNat_of_zero_le x0
  obtain ⟨y, rfl⟩ := Int.eq_ofNat_of_zero_le y0
  have hx : x < 18446744073709551616 := by omega
  have hy : y < 18446744073709551616 := by omega
  have e : x &&& 18446744073709551615 = x := by rw [Nat.and_two_pow_sub_one_eq_mod x 64]; omega
  have a := u64_and_nat x 18446744073709551615 hx (by omega)
  have b := u64_andNot_nat y 18446744073709551615 hy (by omega)
  have c := u64_or_nat x 0 hx (by omega)
  unfold pk
  simp [e] at a b c
  rw [a, b, c]

theorem pk_none (x y : Int) (x0 : 0 ≤ x) (x1 : x < 18446744073709551616) (y0 : 0 ≤ y) (y1 : y < 18446744073709551616) : pk 0 x y = y := by
  obtain ⟨x, rfl⟩ := Int.eq_ofNat_of_zero_le x0
  obtain ⟨y, rfl⟩ := Int.eq_ofNat_of_zero_le y0
  have hx : x < 18446744073709551616 := by omega
  have hy : y < 18446744073709551616 := by omega
  have e : y &&& 18446744073709551615 = y := by rw [Nat.and_two_pow_sub_one_eq_mod y 64]; omega
  have a := u64_and_nat x 0 hx (by omega)
  have b := u64_andNot_nat y 0 hy (by omega)
  have c := u64_or_nat 0 y (by omega) hy
  unfold pk
  simp [e] at a b c
  rw [a, b, c]

theorem pick_any (m a b : Int) (w : World) :
    Calls Yba.prog 5 #[.int .u64 m, .int .u64 a, .int .u64 b] w fun e w' => e = .returned (.int .u64 (pk m a b)) ∧ w' = w := by
  go_enter Yba.func5, Yba.ntmps5
  go_wp2
  go_ret
  exact ⟨rfl, rfl⟩

theorem pick_to (m' m a b : Int) (w : World) (h : m' = m) :
    Calls Yba.prog 5 #[.int .u64 m', .int .u64 a, .int .u64 b] w fun e w' => e = .returned (.int .u64 (pk m a b)) ∧ w' = w := by
  subst h; exact pick_any m' a b w

theorem choose_any (c m x0 x1 x2 y0 y1 y2 : Int) (w : World) (hm : IntKind.u64.wrap (-c) = m)
    (e0 : bits .xor .u64 y0 (bits .and .u64 m (bits .xor .u64 x0 y0)) = pk m x0 y0)
    (e1 : bits .xor .u64 y1 (bits .and .u64 m (bits .xor .u64 x1 y1)) = pk m x1 y1)
    (e2 : bits .xor .u64 y2 (bits .and .u64 m (bits .xor .u64 x2 y2)) = pk m x2 y2) :
    Calls Yba.prog 4 #[.int .u64 c, .agg #[.int .u64 x0, .int .u64 x1, .int .u64 x2], .agg #[.int .u64 y0, .int .u64 y1, .int .u64 y2]] w fun e w' =>
      e = .returned (.agg #[.int .u64 (pk m x0 y0), .int .u64 (pk m x1 y1), .int .u64 (pk m x2 y2)]) ∧ ∃ c1 c2 c3 : Array Value, w' = ((w.alloc (.cells c1 24)).alloc (.cells c2 24)).alloc (.cells c3 24) := by
  rw [← e0, ← e1, ← e2, ← hm]
  clear e0 e1 e2 hm
  go_enter Yba.func4, Yba.ntmps4
  go_wp2
  simp [bodyPost, results, Yba.results4, go_sem]
  exact ⟨_, _, _, rfl⟩

/-! ### The law's walk: three ways, by c -/
theorem mask_is (c : Int) (h0 : 1 ≤ c) (h1 : c < 18446744073709551616) : bits .xor .u64 IntKind.u64.max (IntKind.u64.wrap (c - 1)) = IntKind.u64.wrap (-c) := by
  obtain ⟨n, hn⟩ : ∃ n : Nat, c = n + 1 := ⟨(c - 1).toNat, by omega⟩
  subst hn
  have e1 : IntKind.u64.wrap ((n : Int) + 1 - 1) = (n : Int) := by rw [IntKind.wrap_u64]; omega
  have e2 : IntKind.u64.max = ((18446744073709551615 : Nat) : Int) := by decide
  have hx : 18446744073709551615 ^^^ n = 18446744073709551615 - n := by
    have e : 18446744073709551615 - n = 2 ^ 64 - (n + 1) := by omega
    apply Nat.eq_of_testBit_eq
    intro i
    have f : (18446744073709551615 : Nat) = 2 ^ 64 - 1 := rfl
    rw [e, Nat.testBit_xor, Nat.testBit_two_pow_sub_succ (by omega), f, Nat.testBit_two_pow_sub_one]
    by_cases hi : i < 64
    · simp [hi]
    · have h1 : n.testBit i = false := Nat.testBit_lt_two_pow (Nat.lt_of_lt_of_le (show n < 2 ^ 64 by omega) (Nat.pow_le_pow_right (by omega) (by omega)))
      simp [hi, h1]
  rw [e1, e2, u64_xor_nat _ _ (by omega) (by omega), hx, IntKind.wrap_u64]
  omega

theorem law_mid (c m x0 x1 x2 y0 y1 y2 : Int) (w : World) (h0 : (c != 0) = true) (h0' : (c == 0) = false) (h1 : (c == 1) = false)
    (hm : IntKind.u64.wrap (-c) = m) (hk : bits .xor .u64 IntKind.u64.max (IntKind.u64.wrap (c - 1)) = m)
    (E0 : Hid (bits .xor .u64 y0 (bits .and .u64 m (bits .xor .u64 x0 y0)) = pk m x0 y0))
    (E1 : Hid (bits .xor .u64 y1 (bits .and .u64 m (bits .xor .u64 x1 y1)) = pk m x1 y1))
    (E2 : Hid (bits .xor .u64 y2 (bits .and .u64 m (bits .xor .u64 x2 y2)) = pk m x2 y2)) :
    Calls Yba.prog 3 #[.int .u64 c, .int .u64 x0, .int .u64 x1, .int .u64 x2, .int .u64 y0, .int .u64 y1, .int .u64 y2] w fun e w' => e = .returned (.bool true) ∧ Grown w w' := by
  go_enter Yba.func3, Yba.ntmps3
  go_wp2_with (first | (go_at_call 4; refine (choose_any _ m _ _ _ _ _ _ _ hm E0.out E1.out E2.out).mono ?_; rintro e w' ⟨rfl, c1, c2, c3, rfl⟩) | (go_at_call 5; refine (pick_to _ m _ _ _ (by first | rfl | exact hk)).mono ?_; rintro e w' ⟨rfl, rfl⟩))
  go_ret
  exact ⟨rfl, by repeat (first | exact Grown.refl _ | apply Grown.drew | apply Grown.alloc)⟩

theorem law_one (c m x0 x1 x2 y0 y1 y2 : Int) (w : World) (h0 : (c != 0) = true) (h0' : (c == 0) = false) (h1 : (c == 1) = true)
    (hm : IntKind.u64.wrap (-c) = m) (hk : bits .xor .u64 IntKind.u64.max (IntKind.u64.wrap (c - 1)) = m)
    (q0 : pk m x0 y0 = x0) (q1 : pk m x1 y1 = x1) (q2 : pk m x2 y2 = x2)
    (E0 : Hid (bits .xor .u64 y0 (bits .and .u64 m (bits .xor .u64 x0 y0)) = pk m x0 y0))
    (E1 : Hid (bits .xor .u64 y1 (bits .and .u64 m (bits .xor .u64 x1 y1)) = pk m x1 y1))
    (E2 : Hid (bits .xor .u64 y2 (bits .and .u64 m (bits .xor .u64 x2 y2)) = pk m x2 y2)) :
    Calls Yba.prog 3 #[.int .u64 c, .int .u64 x0, .int .u64 x1, .int .u64 x2, .int .u64 y0, .int .u64 y1, .int .u64 y2] w fun e w' => e = .returned (.bool true) ∧ Grown w w' := by
  go_enter Yba.func3, Yba.ntmps3
  go_wp2_with (first | (go_at_call 4; refine (choose_any _ m _ _ _ _ _ _ _ hm E0.out E1.out E2.out).mono ?_; rintro e w' ⟨rfl, c1, c2, c3, rfl⟩) | (go_at_call 5; refine (pick_to _ m _ _ _ (by first | rfl | exact hk)).mono ?_; rintro e w' ⟨rfl, rfl⟩))
  go_ret
  exact ⟨rfl, by repeat (first | exact Grown.refl _ | apply Grown.drew | apply Grown.alloc)⟩

theorem law_zero (c x0 x1 x2 y0 y1 y2 : Int) (w : World) (h0 : (c != 0) = false) (h0' : (c == 0) = true) (h1 : (c == 1) = false)
    (hm : IntKind.u64.wrap (-c) = 0)
    (q0 : pk 0 x0 y0 = y0) (q1 : pk 0 x1 y1 = y1) (q2 : pk 0 x2 y2 = y2)
    (E0 : Hid (bits .xor .u64 y0 (bits .and .u64 0 (bits .xor .u64 x0 y0)) = pk 0 x0 y0))
    (E1 : Hid (bits .xor .u64 y1 (bits .and .u64 0 (bits .xor .u64 x1 y1)) = pk 0 x1 y1))
    (E2 : Hid (bits .xor .u64 y2 (bits .and .u64 0 (bits .xor .u64 x2 y2)) = pk 0 x2 y2)) :
    Calls Yba.prog 3 #[.int .u64 c, .int .u64 x0, .int .u64 x1, .int .u64 x2, .int .u64 y0, .int .u64 y1, .int .u64 y2] w fun e w' => e = .returned (.bool true) ∧ Grown w w' := by
  go_enter Yba.func3, Yba.ntmps3
  go_wp2_with (first | (go_at_call 4; refine (choose_any _ 0 _ _ _ _ _ _ _ hm E0.out E1.out E2.out).mono ?_; rintro e w' ⟨rfl, c1, c2, c3, rfl⟩) | (go_at_call 5; refine (pick_to _ 0 _ _ _ rfl).mono ?_; rintro e w' ⟨rfl, rfl⟩))
  go_ret
  exact ⟨rfl, by repeat (first | exact Grown.refl _ | apply Grown.drew | apply Grown.alloc)⟩

end Go.Proofs.Ybulkdlli
