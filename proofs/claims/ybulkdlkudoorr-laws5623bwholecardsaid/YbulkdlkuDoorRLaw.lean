/-
  The walks over divide.go's newDivisor and div, and over LawS5623BWhole.
-/
import Derived.Test.YbulkdlkuDoorRDiv
import Derived.RowKit3
namespace Go.Proofs.YbulkdlkuDoorR
open Go.RowKit Plain

theorem TabAt.later {w w' : World} (h : TabAt w) (hb : Below w.heap.size w w') : TabAt w' := fun j hj => cell_later hb (h j hj)

set_option linter.unusedVariables false
set_option maxRecDepth 100000 in
set_option maxHeartbeats 400000 in
/-- newDivisor(d), d the power of two 2^k. -/
theorem new_pow (d k : Nat) (w : World) (h0 : 1 ≤ d) (h1 : d ≤ 9223372036854775807) (hk : Lib.ctz 64 d = k) (hk' : k < 64) (hT : TabAt w)
    (ea : bits .and .u64 (d : Int) ((d : Int) - 1) = 0) :
    Calls Ybad.prog 4 #[.int .i64 d] w fun e w' => e = .returned (.agg #[.int .i64 d, .int .u64 0, .int .u64 k]) ∧ Grown w w' := by
  have hT' : ∀ o, TabAt (w.alloc o) := fun o => hT.later ((Below.refl _ w).alloc (Nat.le_refl _) o)
  go_enter Ybad.func4, Ybad.ntmps4
  go_wp2_with (go_at_call 6; refine (tz64 d (by omega) (by omega) _ (hT' _)).mono ?_; rintro e w' ⟨rfl, rfl⟩)
  exact bodyPost_ret (v := .agg #[.int .i64 d, .int .u64 0, .int .u64 k]) (by simp [results, Ybad.results4, go_sem]) rfl ⟨rfl, (Grown.refl _).alloc _ _⟩

set_option maxRecDepth 100000 in
set_option maxHeartbeats 400000 in
/-- newDivisor(d), d no power of two, l its bit length. -/
theorem new_mul (d l H q r M : Nat) (w : World) (h0 : 1 ≤ d) (h1 : d ≤ 9223372036854775807) (hl : Lib.bitLen d = l) (l1 : 2 ≤ l) (l2 : l ≤ 63)
    (g : (bits .and .u64 (d : Int) ((d : Int) - 1) == 0) = false) (eH : IntKind.u64.wrap (2 ^ (l - 1)) = (H : Int))
    (HD : Hid (∀ (x : Int) (w : World), x = (H : Int) → Calls Ybad.prog 8 #[.int .u64 x, .int .u64 0, .int .u64 d] w fun e w' => e = .returned (.tuple #[.int .u64 q, .int .u64 r]) ∧ w' = w))
    (hq : q + 1 ≤ 18446744073709551615) (hr : ((r : Int) != 0) = true ∧ M = q + 1 ∨ ((r : Int) != 0) = false ∧ M = q) :
    Calls Ybad.prog 4 #[.int .i64 d] w fun e w' => e = .returned (.agg #[.int .i64 d, .int .u64 M, .int .u64 ((l : Int) - 1)]) ∧ Grown w w' := by
  rcases hr with ⟨hr, rfl⟩ | ⟨hr, rfl⟩
  · go_enter Ybad.func4, Ybad.ntmps4
    go_wp2_with (first | (go_at_call 7; refine (len64 d _ (by omega) (by omega)).mono ?_; rintro e w' ⟨rfl, rfl⟩) | (go_at_call 8; refine (HD.out _ _ (by first | rfl | exact eH)).mono ?_; rintro e w' ⟨rfl, rfl⟩))
    exact bodyPost_ret (v := .agg #[.int .i64 d, .int .u64 ((q : Int) + 1), .int .u64 ((l : Int) - 1)]) (by simp [results, Ybad.results4, go_sem]) rfl ⟨by simp, (Grown.refl _).alloc _ _⟩
  · go_enter Ybad.func4, Ybad.ntmps4
    go_wp2_with (first | (go_at_call 7; refine (len64 d _ (by omega) (by omega)).mono ?_; rintro e w' ⟨rfl, rfl⟩) | (go_at_call 8; refine (HD.out _ _ (by first | rfl | exact eH)).mono ?_; rintro e w' ⟨rfl, rfl⟩))
    exact bodyPost_ret (v := .agg #[.int .i64 d, .int .u64 M, .int .u64 ((l : Int) - 1)]) (by simp [results, Ybad.results4, go_sem]) rfl ⟨rfl, (Grown.refl _).alloc _ _⟩

set_option maxRecDepth 100000 in
set_option maxHeartbeats 400000 in
theorem div_shift (d k n r : Nat) (w : World) (hk : k < 64) (hn : n ≤ 9223372036854775807) (er : (n : Int) / 2 ^ k = (r : Int)) :
    Calls Ybad.prog 5 #[.agg #[.int .i64 d, .int .u64 0, .int .u64 k], .int .i64 n] w fun e w' => e = .returned (.int .i64 r) ∧ Grown w w' := by
  go_enter Ybad.func5, Ybad.ntmps5
  go_wp2
  go_ret
  exact ⟨rfl, (Grown.refl _).alloc _ _⟩

set_option maxRecDepth 100000 in
set_option maxHeartbeats 400000 in
theorem div_mul (d l M n r : Nat) (w : World) (l1 : 2 ≤ l) (l2 : l ≤ 63) (hM : M < 18446744073709551616) (hM0 : ((M : Int) == 0) = false) (hn : n ≤ 9223372036854775807)
    (er : (n : Int) * (M : Int) / 18446744073709551616 / 2 ^ (l - 1) = (r : Int)) (hr : r ≤ 9223372036854775807) :
    Calls Ybad.prog 5 #[.agg #[.int .i64 d, .int .u64 M, .int .u64 ((l : Int) - 1)], .int .i64 n] w fun e w' => e = .returned (.int .i64 r) ∧ Grown w w' := by
  go_enter Ybad.func5, Ybad.ntmps5
  go_wp2_with (go_at_call 9; refine (mul64 n M (by omega) hM _).mono ?_; rintro e w' ⟨rfl, rfl⟩)
  go_ret
  exact ⟨rfl, (Grown.refl _).alloc _ _⟩

/-- newDivisor(d), whatever d from 1 to 2^63 - 1: a struct by which 'div' divides. -/
theorem divides (d : Nat) (h0 : 1 ≤ d) (h1 : d ≤ 9223372036854775807) :
    ∃ M s : Int, (∀ (w : World), TabAt w → Calls Ybad.prog 4 #[.int .i64 d] w fun e w' => e = .returned (.agg #[.int .i64 d, .int .u64 M, .int .u64 s]) ∧ Grown w w') ∧
      ∀ (n : Nat) (w : World), n ≤ 9223372036854775807 → Calls Ybad.prog 5 #[.agg #[.int .i64 d, .int .u64 M, .int .u64 s], .int .i64 n] w fun e w' => e = .returned (.int .i64 ((n / d : Nat) : Int)) ∧ Grown w w' := by
  have hb : bits .and .u64 (d : Int) ((d : Int) - 1) = ((d &&& (d - 1) : Nat) : Int) := by
    rw [show ((d : Int) - 1) = ((d - 1 : Nat) : Int) by omega]
    exact u64_and_nat d (d - 1) (by omega) (by omega)
  by_cases c : d &&& (d - 1) = 0
  · obtain ⟨hd, hk⟩ := pow_of_and d (by omega) (by omega) c
    refine ⟨0, (Lib.ctz 64 d : Int), fun w hT => new_pow d _ w h0 h1 rfl hk hT (by rw [hb, c]; rfl), fun n w hn => div_shift d _ n (n / d) w hk hn ?_⟩
    rw [Int.natCast_ediv]
    conv => rhs; rw [hd]
    simp
  · obtain ⟨a, b, e⟩ := len_strict d (by omega) (by omega) c
    have hle : Lib.bitLen d ≤ 63 := Lib.bitLen_le d 63 (by omega) (by omega)
    have hc : ¬ ((d &&& (d - 1) : Nat) : Int) = 0 := by omega
    obtain ⟨l, hl⟩ : ∃ l, Lib.bitLen d = l := ⟨_, rfl⟩
    rw [hl] at a b e hle
    obtain ⟨H, hH⟩ : ∃ H, H = 2 ^ (l - 1) := ⟨_, rfl⟩
    obtain ⟨N, hN⟩ : ∃ N, N = 2 ^ (63 + l) := ⟨_, rfl⟩
    obtain ⟨t1, t2, q0, q1⟩ := magic_ceil d l (N / d) (N % d) a b (by omega) (by omega) (by rw [hN]) (by rw [hN])
    have hH' : IntKind.u64.wrap (2 ^ (l - 1)) = (H : Int) := by
      have : ((2 : Int) ^ (l - 1)) = ((2 ^ (l - 1) : Nat) : Int) := by simp
      rw [this, ← hH]; exact wrap_small H (by rw [hH]; omega)
    obtain ⟨M, hM⟩ : ∃ M, (N % d ≠ 0 ∧ M = N / d + 1 ∨ N % d = 0 ∧ M = N / d) := by
      by_cases z : N % d = 0
      · exact ⟨_, Or.inr ⟨z, rfl⟩⟩
      · exact ⟨_, Or.inl ⟨z, rfl⟩⟩
    have hM2 : 2 ^ (63 + l) ≤ M * d ∧ M * d < 2 ^ (63 + l) + d ∧ M < 18446744073709551616 := by
      rcases hM with ⟨z, rfl⟩ | ⟨z, rfl⟩
      · exact t1 z
      · exact t2 z
    have hq : N / d + 1 ≤ 18446744073709551615 := by
      rcases Nat.lt_or_ge (N / d) 18446744073709551615 with h | h
      · omega
      · exfalso
        have m1 : 18446744073709551615 * d ≤ N / d * d := Nat.mul_le_mul_right _ h
        have m2 := Nat.div_mul_le_self N d
        have m3 : N = 18446744073709551616 * 2 ^ (l - 1) := by
          rw [hN, show (18446744073709551616 : Nat) = 2 ^ 64 from rfl, ← Nat.pow_add]; congr 1; omega
        omega
    refine ⟨M, (l : Int) - 1, fun w hT => new_mul d l H (N / d) (N % d) M w h0 h1 hl e hle (by rw [hb]; simpa using c) hH' (fun x w hx => by rw [hx]; exact div64 l d N H w hl e hle hH (by rw [hH]; exact a) b hN) hq ?_,
      fun n w hn => div_mul d l M n (n / d) w e hle hM2.2.2 (by rcases hM with ⟨z, rfl⟩ | ⟨z, rfl⟩ <;> simp <;> omega) hn ?_ (Nat.le_trans (Nat.div_le_self _ _) hn)⟩
    · rcases hM with ⟨z, rfl⟩ | ⟨z, rfl⟩
      · exact Or.inl ⟨by simp; omega, rfl⟩
      · exact Or.inr ⟨by simp; omega, rfl⟩
    · have key := magic_div d l M n a b (by omega) (by omega) hM2.1 hM2.2.1
      rw [← key]
      have e1 : 2 ^ (63 + l) = 18446744073709551616 * 2 ^ (l - 1) := by
        rw [show (18446744073709551616 : Nat) = 2 ^ 64 from rfl, ← Nat.pow_add]; congr 1; omega
      rw [e1, ← Nat.div_div_eq_div_mul]
      simp

theorem quo_in (n d : Nat) (h : n ≤ 9223372036854775807) : wrap64 ((n : Int) / (d : Int)) = (n : Int) / (d : Int) := by
  rw [← Int.natCast_ediv]
  have := Nat.div_le_self n d
  generalize n / d = q at *
  exact IntWalk.wrap64_in _ (by omega)

/-- Two stretches of growth, one behind the other. -/
theorem grown_trans {a b c : World} (h : Grown a b) (h' : Grown b c) : Grown a c :=
  ⟨World.keptBut_trans h.1 (World.keptBut_mono (fun _ f => f.elim) h'.1), fun x => (h'.2.1 x).trans (h.2.1 x), Nat.le_trans h.2.2 h'.2.2⟩

set_option maxRecDepth 100000 in
set_option maxHeartbeats 400000 in
theorem law_neg_neg (a0 a1 : Int) (M s : Int) (d n : Nat) (w : World) (c1 : a0 < 0) (c2 : ¬ a0 = -1) (b0 : -9223372036854775808 ≤ a0) (c3 : -(a0 + 1) = (d : Int)) (c4 : a1 < 0) (b1 : -9223372036854775808 ≤ a1) (c5 : -(a1 + 1) = (n : Int)) (b2 : n ≤ 9223372036854775807) (b3 : d ≤ 9223372036854775807) (b4 : 1 ≤ d)
   (HD : Hid (∀ (w : World), TabAt w → Calls Ybad.prog 4 #[.int .i64 d] w fun e w' => e = .returned (.agg #[.int .i64 d, .int .u64 M, .int .u64 s]) ∧ Grown w w'))
   (HV : Hid (∀ (n : Nat) (w : World), n ≤ 9223372036854775807 → Calls Ybad.prog 5 #[.agg #[.int .i64 d, .int .u64 M, .int .u64 s], .int .i64 n] w fun e w' => e = .returned (.int .i64 ((n / d : Nat) : Int)) ∧ Grown w w')) (hT : TabAt w) :
    Calls Ybad.prog 3 #[.int .i64 a0, .int .i64 a1] w fun e w' => e = .returned (.bool true) ∧ Grown w w' := by
  have ew := quo_in n d b2
  go_enter Ybad.func3, Ybad.ntmps3
  go_wp2_with (first | (go_at_call 4; refine (HD.out _ hT).mono ?_; rintro e w' ⟨rfl, hg⟩) | (go_at_call 5; refine (HV.out n _ b2).mono ?_; rintro e w2 ⟨rfl, hg2⟩))
  go_ret
  exact ⟨rfl, grown_trans (hg.alloc _ _) hg2⟩

set_option maxRecDepth 100000 in
set_option maxHeartbeats 400000 in
theorem law_neg_pos (a0 : Int) (M s : Int) (d n : Nat) (w : World) (c1 : a0 < 0) (c2 : ¬ a0 = -1) (b0 : -9223372036854775808 ≤ a0) (c3 : -(a0 + 1) = (d : Int)) (b2 : n ≤ 9223372036854775807) (b3 : d ≤ 9223372036854775807) (b4 : 1 ≤ d)
   (HD : Hid (∀ (w : World), TabAt w → Calls Ybad.prog 4 #[.int .i64 d] w fun e w' => e = .returned (.agg #[.int .i64 d, .int .u64 M, .int .u64 s]) ∧ Grown w w'))
   (HV : Hid (∀ (n : Nat) (w : World), n ≤ 9223372036854775807 → Calls Ybad.prog 5 #[.agg #[.int .i64 d, .int .u64 M, .int .u64 s], .int .i64 n] w fun e w' => e = .returned (.int .i64 ((n / d : Nat) : Int)) ∧ Grown w w')) (hT : TabAt w) :
    Calls Ybad.prog 3 #[.int .i64 a0, .int .i64 n] w fun e w' => e = .returned (.bool true) ∧ Grown w w' := by
  have ew := quo_in n d b2
  go_enter Ybad.func3, Ybad.ntmps3
  go_wp2_with (first | (go_at_call 4; refine (HD.out _ hT).mono ?_; rintro e w' ⟨rfl, hg⟩) | (go_at_call 5; refine (HV.out n _ b2).mono ?_; rintro e w2 ⟨rfl, hg2⟩))
  go_ret
  exact ⟨rfl, grown_trans (hg.alloc _ _) hg2⟩

set_option maxRecDepth 100000 in
set_option maxHeartbeats 400000 in
theorem law_mone_neg (a1 : Int) (M s : Int) (n : Nat) (w : World) (c4 : a1 < 0) (b1 : -9223372036854775808 ≤ a1) (c5 : -(a1 + 1) = (n : Int)) (b2 : n ≤ 9223372036854775807) 
   (HD : Hid (∀ (w : World), TabAt w → Calls Ybad.prog 4 #[.int .i64 1] w fun e w' => e = .returned (.agg #[.int .i64 1, .int .u64 M, .int .u64 s]) ∧ Grown w w'))
   (HV : Hid (∀ (n : Nat) (w : World), n ≤ 9223372036854775807 → Calls Ybad.prog 5 #[.agg #[.int .i64 1, .int .u64 M, .int .u64 s], .int .i64 n] w fun e w' => e = .returned (.int .i64 ((n / 1 : Nat) : Int)) ∧ Grown w w')) (hT : TabAt w) :
    Calls Ybad.prog 3 #[.int .i64 (-1), .int .i64 a1] w fun e w' => e = .returned (.bool true) ∧ Grown w w' := by
  go_enter Ybad.func3, Ybad.ntmps3
  go_wp2_with (first | (go_at_call 4; refine (HD.out _ hT).mono ?_; rintro e w' ⟨rfl, hg⟩) | (go_at_call 5; refine (HV.out n _ b2).mono ?_; rintro e w2 ⟨rfl, hg2⟩))
  go_ret
  exact ⟨rfl, grown_trans (hg.alloc _ _) hg2⟩

set_option maxRecDepth 100000 in
set_option maxHeartbeats 400000 in
theorem law_mone_pos (M s : Int) (n : Nat) (w : World) (b2 : n ≤ 9223372036854775807) 
   (HD : Hid (∀ (w : World), TabAt w → Calls Ybad.prog 4 #[.int .i64 1] w fun e w' => e = .returned (.agg #[.int .i64 1, .int .u64 M, .int .u64 s]) ∧ Grown w w'))
   (HV : Hid (∀ (n : Nat) (w : World), n ≤ 9223372036854775807 → Calls Ybad.prog 5 #[.agg #[.int .i64 1, .int .u64 M, .int .u64 s], .int .i64 n] w fun e w' => e = .returned (.int .i64 ((n / 1 : Nat) : Int)) ∧ Grown w w')) (hT : TabAt w) :
    Calls Ybad.prog 3 #[.int .i64 (-1), .int .i64 n] w fun e w' => e = .returned (.bool true) ∧ Grown w w' := by
  go_enter Ybad.func3, Ybad.ntmps3
  go_wp2_with (first | (go_at_call 4; refine (HD.out _ hT).mono ?_; rintro e w' ⟨rfl, hg⟩) | (go_at_call 5; refine (HV.out n _ b2).mono ?_; rintro e w2 ⟨rfl, hg2⟩))
  go_ret
  exact ⟨rfl, grown_trans (hg.alloc _ _) hg2⟩

set_option maxRecDepth 100000 in
set_option maxHeartbeats 400000 in
theorem law_zero_neg (a1 : Int) (M s : Int) (n : Nat) (w : World) (c4 : a1 < 0) (b1 : -9223372036854775808 ≤ a1) (c5 : -(a1 + 1) = (n : Int)) (b2 : n ≤ 9223372036854775807) 
   (HD : Hid (∀ (w : World), TabAt w → Calls Ybad.prog 4 #[.int .i64 1] w fun e w' => e = .returned (.agg #[.int .i64 1, .int .u64 M, .int .u64 s]) ∧ Grown w w'))
   (HV : Hid (∀ (n : Nat) (w : World), n ≤ 9223372036854775807 → Calls Ybad.prog 5 #[.agg #[.int .i64 1, .int .u64 M, .int .u64 s], .int .i64 n] w fun e w' => e = .returned (.int .i64 ((n / 1 : Nat) : Int)) ∧ Grown w w')) (hT : TabAt w) :
    Calls Ybad.prog 3 #[.int .i64 0, .int .i64 a1] w fun e w' => e = .returned (.bool true) ∧ Grown w w' := by
  go_enter Ybad.func3, Ybad.ntmps3
  go_wp2_with (first | (go_at_call 4; refine (HD.out _ hT).mono ?_; rintro e w' ⟨rfl, hg⟩) | (go_at_call 5; refine (HV.out n _ b2).mono ?_; rintro e w2 ⟨rfl, hg2⟩))
  go_ret
  exact ⟨rfl, grown_trans (hg.alloc _ _) hg2⟩

set_option maxRecDepth 100000 in
set_option maxHeartbeats 400000 in
theorem law_zero_pos (M s : Int) (n : Nat) (w : World) (b2 : n ≤ 9223372036854775807) 
   (HD : Hid (∀ (w : World), TabAt w → Calls Ybad.prog 4 #[.int .i64 1] w fun e w' => e = .returned (.agg #[.int .i64 1, .int .u64 M, .int .u64 s]) ∧ Grown w w'))
   (HV : Hid (∀ (n : Nat) (w : World), n ≤ 9223372036854775807 → Calls Ybad.prog 5 #[.agg #[.int .i64 1, .int .u64 M, .int .u64 s], .int .i64 n] w fun e w' => e = .returned (.int .i64 ((n / 1 : Nat) : Int)) ∧ Grown w w')) (hT : TabAt w) :
    Calls Ybad.prog 3 #[.int .i64 0, .int .i64 n] w fun e w' => e = .returned (.bool true) ∧ Grown w w' := by
  go_enter Ybad.func3, Ybad.ntmps3
  go_wp2_with (first | (go_at_call 4; refine (HD.out _ hT).mono ?_; rintro e w' ⟨rfl, hg⟩) | (go_at_call 5; refine (HV.out n _ b2).mono ?_; rintro e w2 ⟨rfl, hg2⟩))
  go_ret
  exact ⟨rfl, grown_trans (hg.alloc _ _) hg2⟩

set_option maxRecDepth 100000 in
set_option maxHeartbeats 400000 in
theorem law_pos_neg (a1 : Int) (M s : Int) (d n : Nat) (w : World) (c4 : a1 < 0) (b1 : -9223372036854775808 ≤ a1) (c5 : -(a1 + 1) = (n : Int)) (b2 : n ≤ 9223372036854775807) (b3 : d ≤ 9223372036854775807) (b4 : 1 ≤ d)
   (HD : Hid (∀ (w : World), TabAt w → Calls Ybad.prog 4 #[.int .i64 d] w fun e w' => e = .returned (.agg #[.int .i64 d, .int .u64 M, .int .u64 s]) ∧ Grown w w'))
   (HV : Hid (∀ (n : Nat) (w : World), n ≤ 9223372036854775807 → Calls Ybad.prog 5 #[.agg #[.int .i64 d, .int .u64 M, .int .u64 s], .int .i64 n] w fun e w' => e = .returned (.int .i64 ((n / d : Nat) : Int)) ∧ Grown w w')) (hT : TabAt w) :
    Calls Ybad.prog 3 #[.int .i64 d, .int .i64 a1] w fun e w' => e = .returned (.bool true) ∧ Grown w w' := by
  have ew := quo_in n d b2
  go_enter Ybad.func3, Ybad.ntmps3
  go_wp2_with (first | (go_at_call 4; refine (HD.out _ hT).mono ?_; rintro e w' ⟨rfl, hg⟩) | (go_at_call 5; refine (HV.out n _ b2).mono ?_; rintro e w2 ⟨rfl, hg2⟩))
  go_ret
  exact ⟨rfl, grown_trans (hg.alloc _ _) hg2⟩

set_option maxRecDepth 100000 in
set_option maxHeartbeats 400000 in
theorem law_pos_pos (M s : Int) (d n : Nat) (w : World) (b2 : n ≤ 9223372036854775807) (b3 : d ≤ 9223372036854775807) (b4 : 1 ≤ d)
   (HD : Hid (∀ (w : World), TabAt w → Calls Ybad.prog 4 #[.int .i64 d] w fun e w' => e = .returned (.agg #[.int .i64 d, .int .u64 M, .int .u64 s]) ∧ Grown w w'))
   (HV : Hid (∀ (n : Nat) (w : World), n ≤ 9223372036854775807 → Calls Ybad.prog 5 #[.agg #[.int .i64 d, .int .u64 M, .int .u64 s], .int .i64 n] w fun e w' => e = .returned (.int .i64 ((n / d : Nat) : Int)) ∧ Grown w w')) (hT : TabAt w) :
    Calls Ybad.prog 3 #[.int .i64 d, .int .i64 n] w fun e w' => e = .returned (.bool true) ∧ Grown w w' := by
  have ew := quo_in n d b2
  go_enter Ybad.func3, Ybad.ntmps3
  go_wp2_with (first | (go_at_call 4; refine (HD.out _ hT).mono ?_; rintro e w' ⟨rfl, hg⟩) | (go_at_call 5; refine (HV.out n _ b2).mono ?_; rintro e w2 ⟨rfl, hg2⟩))
  go_ret
  exact ⟨rfl, grown_trans (hg.alloc _ _) hg2⟩

/-- THE LAW's WALK, every pair of int64s. -/
theorem law_any (a0 a1 : Int) (w : World) (b0 : -9223372036854775808 ≤ a0) (b0' : a0 ≤ 9223372036854775807) (b1 : -9223372036854775808 ≤ a1) (b1' : a1 ≤ 9223372036854775807) (hT : TabAt w) :
    Calls Ybad.prog 3 #[.int .i64 a0, .int .i64 a1] w fun e w' => e = .returned (.bool true) ∧ Grown w w' := by
  obtain ⟨n, hn⟩ : ∃ n : Nat, (n : Int) = if a1 < 0 then -(a1 + 1) else a1 := ⟨(if a1 < 0 then -(a1 + 1) else a1).toNat, by split <;> omega⟩
  have bn : n ≤ 9223372036854775807 := by split at hn <;> omega
  by_cases c1 : a0 = -1
  · subst c1
    obtain ⟨M, s, HD, HV⟩ := divides 1 (by omega) (by omega)
    by_cases c : a1 < 0
    · rw [if_pos c] at hn
      exact law_mone_neg a1 M s n w c b1 hn.symm bn HD HV hT
    · rw [if_neg c] at hn
      subst hn
      exact law_mone_pos M s n w bn HD HV hT
  · by_cases c2 : a0 = 0
    · subst c2
      obtain ⟨M, s, HD, HV⟩ := divides 1 (by omega) (by omega)
      by_cases c : a1 < 0
      · rw [if_pos c] at hn
        exact law_zero_neg a1 M s n w c b1 hn.symm bn HD HV hT
      · rw [if_neg c] at hn
        subst hn
        exact law_zero_pos M s n w bn HD HV hT
    · obtain ⟨d, hd⟩ : ∃ d : Nat, (d : Int) = if a0 < 0 then -(a0 + 1) else a0 := ⟨(if a0 < 0 then -(a0 + 1) else a0).toNat, by split <;> omega⟩
      have bd : 1 ≤ d ∧ d ≤ 9223372036854775807 := by split at hd <;> omega
      obtain ⟨M, s, HD, HV⟩ := divides d bd.1 bd.2
      by_cases c3 : a0 < 0
      · rw [if_pos c3] at hd
        by_cases c : a1 < 0
        · rw [if_pos c] at hn
          exact law_neg_neg a0 a1 M s d n w c3 c1 b0 hd.symm c b1 hn.symm bn bd.2 bd.1 HD HV hT
        · rw [if_neg c] at hn
          subst hn
          exact law_neg_pos a0 M s d n w c3 c1 b0 hd.symm bn bd.2 bd.1 HD HV hT
      · rw [if_neg c3] at hd
        subst hd
        by_cases c : a1 < 0
        · rw [if_pos c] at hn
          exact law_pos_neg a1 M s d n w c b1 hn.symm bn bd.2 bd.1 HD HV hT
        · rw [if_neg c] at hn
          subst hn
          exact law_pos_pos M s d n w bn bd.2 bd.1 HD HV hT
end Go.Proofs.YbulkdlkuDoorR
