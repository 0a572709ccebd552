/-
  The walk over math/bits.Div64 where the low word is 0 and the divisor is below 2^63: two digits, each by a correction loop (Plain's 'Dig').
-/
import Derived.Test.YbulkdlkuDoorRBits
import Derived.Deep.Light
namespace Go.Proofs.YbulkdlkuDoorR
open Go.RowKit Plain

set_option linter.unusedVariables false      -- the walk takes bounds out of the context by itself
set_option maxRecDepth 100000 in
set_option maxHeartbeats 2000000 in
theorem div64_core (hi y l Y U a b q00 s00 Q1 R1 q01 s01 Q0 R0 rem : Nat) (w : World) (h0 : 0 < hi) (h1 : hi < y) (hy : y < 18446744073709551616) (hl : Lib.bitLen y = l) (l1 : 1 ≤ l) (l2 : l ≤ 63)
   (g0 : ((y : Int) == 0) = false) (g1 : ((hi : Int) == 0) = false)
   (eY : IntKind.u64.wrap ((y : Int) * 2 ^ (64 - l)) = (Y : Int)) (eU : IntKind.u64.wrap ((hi : Int) * 2 ^ (64 - l)) = (U : Int))
   (eA : (Y : Int) / 4294967296 = (a : Int)) (eB : bits .and .u64 (Y : Int) 4294967295 = (b : Int)) (eO : bits .or .u64 (U : Int) 0 = (U : Int)) (eZ : bits .and .u64 (0 : Int) 4294967295 = 0)
   (ha : 2147483648 ≤ a) (ha' : a < 4294967296) (hb : b < 4294967296) (hU' : U < 18446744073709551616) (HU : Hid (U < a * 4294967296 + b))
   (e1 : IntKind.u64.wrap ((U : Int) / (a : Int)) = (q00 : Int)) (e2 : IntKind.u64.wrap ((U : Int) - IntKind.u64.wrap ((q00 : Int) * (a : Int))) = (s00 : Int)) (D1 : Hid (Dig U a b 0 q00 s00))
   (HQ1 : Hid ((U * 4294967296 + 0) / (a * 4294967296 + b) = Q1)) (hQ1 : Q1 < 4294967296)
   (e3 : IntKind.u64.wrap (IntKind.u64.wrap (IntKind.u64.wrap ((U : Int) * 4294967296)) - IntKind.u64.wrap ((Q1 : Int) * (Y : Int))) = (R1 : Int))
   (hR' : R1 < 18446744073709551616) (HR : Hid (R1 < a * 4294967296 + b))
   (e4 : IntKind.u64.wrap ((R1 : Int) / (a : Int)) = (q01 : Int)) (e5 : IntKind.u64.wrap ((R1 : Int) - IntKind.u64.wrap ((q01 : Int) * (a : Int))) = (s01 : Int)) (D2 : Hid (Dig R1 a b 0 q01 s01))
   (HQ0 : Hid ((R1 * 4294967296 + 0) / (a * 4294967296 + b) = Q0)) (hQ0 : Q0 < 4294967296)
   (e6 : IntKind.u64.wrap (IntKind.u64.wrap (IntKind.u64.wrap ((R1 : Int) * 4294967296)) - IntKind.u64.wrap ((Q0 : Int) * (Y : Int))) = (R0 : Int)) (hR0 : R0 < 18446744073709551616)
   (e7 : (R0 : Int) / 2 ^ (64 - l) = (rem : Int)) :
    Calls Ybad.prog 8 #[.int .u64 hi, .int .u64 0, .int .u64 y] w fun e w' => e = .returned (.tuple #[.int .u64 ((Q1 : Int) * 4294967296 + (Q0 : Int)), .int .u64 rem]) ∧ w' = w := by
  have hd1 : q00 ≤ 4294967297 ∧ s00 < 4294967296 := ⟨D1.out.le, D1.out.rl⟩
  have hd2 : q01 ≤ 4294967297 ∧ s01 < 4294967296 := ⟨D2.out.le, D2.out.rl⟩
  go_enter Ybad.func8, Ybad.ntmps8
  go_wp2_with (go_at_call 10; refine (lead64 _ _ (by omega) (by omega)).mono ?_; rintro e w' ⟨rfl, rfl⟩)
  go_loop [15, 16] (fun t r => ∃ q s : Nat, t = .int .u64 q ∧ r = .int .u64 s ∧ Hid (Dig U a b 0 q s) ∧ q ≤ 4294967297 ∧ s < 4294967296) (fun t _ => (intOf t).toNat)
  case atStart => exact ⟨q00, s00, rfl, rfl, D1, hd1.1, hd1.2⟩
  case round =>
    obtain ⟨q, s, rfl, rfl, hd, hq, hs⟩ := hrel
    by_cases c1 : (4294967296 : Int) ≤ (q : Int)
    · by_cases c3 : (4294967296 : Int) ≤ (s : Int) + (a : Int)
      · have eq : (q : Int) - 1 = (Q1 : Int) := by
          have := (hd.out.leave hb HU.out (by omega) (Or.inl (by omega)) (by omega)).trans HQ1.out
          omega
        clear hd
        go_wp2
        clear hq hs c1
        go_loop [18, 16] (fun t r => ∃ q s : Nat, t = .int .u64 q ∧ r = .int .u64 s ∧ Hid (Dig R1 a b 0 q s) ∧ q ≤ 4294967297 ∧ s < 4294967296) (fun t _ => (intOf t).toNat)
        case atStart => exact ⟨q01, s01, rfl, rfl, D2, hd2.1, hd2.2⟩
        case round =>
          obtain ⟨q, s, rfl, rfl, hd, hq, hs⟩ := hrel
          by_cases c1 : (4294967296 : Int) ≤ (q : Int)
          · by_cases c3 : (4294967296 : Int) ≤ (s : Int) + (a : Int)
            · have eq : (q : Int) - 1 = (Q0 : Int) := by
                have := (hd.out.leave hb HR.out (by omega) (Or.inl (by omega)) (by omega)).trans HQ0.out
                omega
              clear hd
              go_wp2
              go_ret2
              exact ⟨rfl, rfl⟩
            · have hd' := hd.out.next hb HR.out (by omega) (Or.inl (by omega)) (by omega)
              go_wp2
              go_round
              case rel => exact ⟨q - 1, s + a, by go_num, by go_num, hd', by omega, by omega⟩
              case measure => simp [intOf]; omega
          · obtain ⟨p, hp⟩ : ∃ p : Nat, p = q * b := ⟨_, rfl⟩
            have hpl : p < 18446744073709551616 := by
              rw [hp]
              exact Nat.lt_of_lt_of_le (Nat.mul_lt_mul_of_lt_of_le (show q < 4294967296 by omega) (Nat.le_of_lt hb) (by omega)) (by omega)
            have ep : IntKind.u64.wrap ((q : Int) * (b : Int)) = (p : Int) := by
              rw [hp, IntKind.wrap_u64, ← Int.natCast_mul]; omega
            have HP : Hid (p = q * b) := hp
            clear hp
            by_cases c2 : 4294967296 * (s : Int) < (p : Int)
            · have ht : 4294967296 ≤ q ∨ 4294967296 * s + 0 < q * b := Or.inr (by rw [← HP.out]; omega)
              by_cases c3 : (4294967296 : Int) ≤ (s : Int) + (a : Int)
              · have eq : (q : Int) - 1 = (Q0 : Int) := by
                  have h1 := (hd.out.step hb HR.out (by omega) ht).1
                  have := (hd.out.leave hb HR.out (by omega) ht (by omega)).trans HQ0.out
                  omega
                clear hd ht
                go_wp2
                go_ret2
                exact ⟨rfl, rfl⟩
              · have hd' := hd.out.next hb HR.out (by omega) ht (by omega)
                have h1 := (hd.out.step hb HR.out (by omega) ht).1
                clear ht
                go_wp2
                go_round
                case rel => exact ⟨q - 1, s + a, by go_num, by go_num, hd', by omega, by omega⟩
                case measure => simp [intOf]; omega
            · obtain rfl : q = Q0 := (hd.out.done (by omega) (by rw [← HP.out]; omega)).trans HQ0.out
              clear hd
              go_wp2
              go_ret2
              exact ⟨rfl, rfl⟩
      · have hd' := hd.out.next hb HU.out (by omega) (Or.inl (by omega)) (by omega)
        go_wp2
        go_round
        case rel => exact ⟨q - 1, s + a, by go_num, by go_num, hd', by omega, by omega⟩
        case measure => simp [intOf]; omega
    · obtain ⟨p, hp⟩ : ∃ p : Nat, p = q * b := ⟨_, rfl⟩
      have hpl : p < 18446744073709551616 := by
        rw [hp]
        exact Nat.lt_of_lt_of_le (Nat.mul_lt_mul_of_lt_of_le (show q < 4294967296 by omega) (Nat.le_of_lt hb) (by omega)) (by omega)
      have ep : IntKind.u64.wrap ((q : Int) * (b : Int)) = (p : Int) := by
        rw [hp, IntKind.wrap_u64, ← Int.natCast_mul]; omega
      have HP : Hid (p = q * b) := hp
      clear hp
      by_cases c2 : 4294967296 * (s : Int) < (p : Int)
      · have ht : 4294967296 ≤ q ∨ 4294967296 * s + 0 < q * b := Or.inr (by rw [← HP.out]; omega)
        by_cases c3 : (4294967296 : Int) ≤ (s : Int) + (a : Int)
        · have eq : (q : Int) - 1 = (Q1 : Int) := by
            have h1 := (hd.out.step hb HU.out (by omega) ht).1
            have := (hd.out.leave hb HU.out (by omega) ht (by omega)).trans HQ1.out
            omega
          clear hd ht
          go_wp2
          clear hq hs c1
          go_loop [18, 16] (fun t r => ∃ q s : Nat, t = .int .u64 q ∧ r = .int .u64 s ∧ Hid (Dig R1 a b 0 q s) ∧ q ≤ 4294967297 ∧ s < 4294967296) (fun t _ => (intOf t).toNat)
          case atStart => exact ⟨q01, s01, rfl, rfl, D2, hd2.1, hd2.2⟩
          case round =>
            obtain ⟨q, s, rfl, rfl, hd, hq, hs⟩ := hrel
            by_cases c1 : (4294967296 : Int) ≤ (q : Int)
            · by_cases c3 : (4294967296 : Int) ≤ (s : Int) + (a : Int)
              · have eq : (q : Int) - 1 = (Q0 : Int) := by
                  have := (hd.out.leave hb HR.out (by omega) (Or.inl (by omega)) (by omega)).trans HQ0.out
                  omega
                clear hd
                go_wp2
                go_ret2
                exact ⟨rfl, rfl⟩
              · have hd' := hd.out.next hb HR.out (by omega) (Or.inl (by omega)) (by omega)
                go_wp2
                go_round
                case rel => exact ⟨q - 1, s + a, by go_num, by go_num, hd', by omega, by omega⟩
                case measure => simp [intOf]; omega
            · obtain ⟨p, hp⟩ : ∃ p : Nat, p = q * b := ⟨_, rfl⟩
              have hpl : p < 18446744073709551616 := by
                rw [hp]
                exact Nat.lt_of_lt_of_le (Nat.mul_lt_mul_of_lt_of_le (show q < 4294967296 by omega) (Nat.le_of_lt hb) (by omega)) (by omega)
              have ep : IntKind.u64.wrap ((q : Int) * (b : Int)) = (p : Int) := by
                rw [hp, IntKind.wrap_u64, ← Int.natCast_mul]; omega
              have HP : Hid (p = q * b) := hp
              clear hp
              by_cases c2 : 4294967296 * (s : Int) < (p : Int)
              · have ht : 4294967296 ≤ q ∨ 4294967296 * s + 0 < q * b := Or.inr (by rw [← HP.out]; omega)
                by_cases c3 : (4294967296 : Int) ≤ (s : Int) + (a : Int)
                · have eq : (q : Int) - 1 = (Q0 : Int) := by
                    have h1 := (hd.out.step hb HR.out (by omega) ht).1
                    have := (hd.out.leave hb HR.out (by omega) ht (by omega)).trans HQ0.out
                    omega
                  clear hd ht
                  go_wp2
                  go_ret2
                  exact ⟨rfl, rfl⟩
                · have hd' := hd.out.next hb HR.out (by omega) ht (by omega)
                  have h1 := (hd.out.step hb HR.out (by omega) ht).1
                  clear ht
                  go_wp2
                  go_round
                  case rel => exact ⟨q - 1, s + a, by go_num, by go_num, hd', by omega, by omega⟩
                  case measure => simp [intOf]; omega
              · obtain rfl : q = Q0 := (hd.out.done (by omega) (by rw [← HP.out]; omega)).trans HQ0.out
                clear hd
                go_wp2
                go_ret2
                exact ⟨rfl, rfl⟩
        · have hd' := hd.out.next hb HU.out (by omega) ht (by omega)
          have h1 := (hd.out.step hb HU.out (by omega) ht).1
          clear ht
          go_wp2
          go_round
          case rel => exact ⟨q - 1, s + a, by go_num, by go_num, hd', by omega, by omega⟩
          case measure => simp [intOf]; omega
      · obtain rfl : q = Q1 := (hd.out.done (by omega) (by rw [← HP.out]; omega)).trans HQ1.out
        clear hd
        go_wp2
        clear hq hs c1
        go_loop [18, 16] (fun t r => ∃ q s : Nat, t = .int .u64 q ∧ r = .int .u64 s ∧ Hid (Dig R1 a b 0 q s) ∧ q ≤ 4294967297 ∧ s < 4294967296) (fun t _ => (intOf t).toNat)
        case atStart => exact ⟨q01, s01, rfl, rfl, D2, hd2.1, hd2.2⟩
        case round =>
          obtain ⟨q, s, rfl, rfl, hd, hq, hs⟩ := hrel
          by_cases c1 : (4294967296 : Int) ≤ (q : Int)
          · by_cases c3 : (4294967296 : Int) ≤ (s : Int) + (a : Int)
            · have eq : (q : Int) - 1 = (Q0 : Int) := by
                have := (hd.out.leave hb HR.out (by omega) (Or.inl (by omega)) (by omega)).trans HQ0.out
                omega
              clear hd
              go_wp2
              go_ret2
              exact ⟨rfl, rfl⟩
            · have hd' := hd.out.next hb HR.out (by omega) (Or.inl (by omega)) (by omega)
              go_wp2
              go_round
              case rel => exact ⟨q - 1, s + a, by go_num, by go_num, hd', by omega, by omega⟩
              case measure => simp [intOf]; omega
          · obtain ⟨p, hp⟩ : ∃ p : Nat, p = q * b := ⟨_, rfl⟩
            have hpl : p < 18446744073709551616 := by
              rw [hp]
              exact Nat.lt_of_lt_of_le (Nat.mul_lt_mul_of_lt_of_le (show q < 4294967296 by omega) (Nat.le_of_lt hb) (by omega)) (by omega)
            have ep : IntKind.u64.wrap ((q : Int) * (b : Int)) = (p : Int) := by
              rw [hp, IntKind.wrap_u64, ← Int.natCast_mul]; omega
            have HP : Hid (p = q * b) := hp
            clear hp
            by_cases c2 : 4294967296 * (s : Int) < (p : Int)
            · have ht : 4294967296 ≤ q ∨ 4294967296 * s + 0 < q * b := Or.inr (by rw [← HP.out]; omega)
              by_cases c3 : (4294967296 : Int) ≤ (s : Int) + (a : Int)
              · have eq : (q : Int) - 1 = (Q0 : Int) := by
                  have h1 := (hd.out.step hb HR.out (by omega) ht).1
                  have := (hd.out.leave hb HR.out (by omega) ht (by omega)).trans HQ0.out
                  omega
                clear hd ht
                go_wp2
                go_ret2
                exact ⟨rfl, rfl⟩
              · have hd' := hd.out.next hb HR.out (by omega) ht (by omega)
                have h1 := (hd.out.step hb HR.out (by omega) ht).1
                clear ht
                go_wp2
                go_round
                case rel => exact ⟨q - 1, s + a, by go_num, by go_num, hd', by omega, by omega⟩
                case measure => simp [intOf]; omega
            · obtain rfl : q = Q0 := (hd.out.done (by omega) (by rw [← HP.out]; omega)).trans HQ0.out
              clear hd
              go_wp2
              go_ret2
              exact ⟨rfl, rfl⟩

/-! ### The plain facts behind the walk's rules -/
theorem wrap_small (n : Nat) (h : n < 18446744073709551616) : IntKind.u64.wrap (n : Int) = (n : Int) := by rw [IntKind.wrap_u64]; omega

theorem rest_is (P T R : Nat) (h : P = T + R) (hR : R < 18446744073709551616) : IntKind.u64.wrap (IntKind.u64.wrap (IntKind.u64.wrap (P : Int)) - IntKind.u64.wrap (T : Int)) = (R : Int) := by
  simp only [IntKind.wrap_u64]; omega

theorem rest_is' (P T R : Nat) (h : P = T + R) (hT : P < 18446744073709551616) : IntKind.u64.wrap ((P : Int) - IntKind.u64.wrap (T : Int)) = (R : Int) := by
  simp only [IntKind.wrap_u64]; omega

theorem two_digits (U Y B : Nat) (hY : 0 < Y) : U * (B * B) / Y = U * B / Y * B + U * B % Y * B / Y ∧ U * (B * B) % Y = U * B % Y * B % Y := by
  have e1 := Nat.div_add_mod (U * B) Y
  rw [← Nat.mul_assoc]
  generalize U * B = P at *
  have e2 : P * B = P % Y * B + Y * (P / Y * B) := by
    have : (Y * (P / Y) + P % Y) * B = Y * (P / Y) * B + P % Y * B := Nat.add_mul _ _ _
    rw [e1] at this
    rw [this, Nat.mul_assoc, Nat.add_comm]
  constructor
  · rw [e2, Nat.add_mul_div_left _ _ hY, Nat.add_comm]
  · rw [e2, Nat.add_mul_mod_self_left]

theorem dig_lt0 (u a b Y : Nat) (hY : a * 4294967296 + b = Y) (hu : u < Y) : u * 4294967296 / Y < 4294967296 := by
  subst hY
  have h := dig_lt u a b 0 hu (by omega)
  simp only [Nat.add_zero] at h
  exact h

/-- The two digits, under names: what the walk's rules ask. -/
theorem digits (Y U a b : Nat) (hYlo : 9223372036854775808 < Y) (hYhi : Y < 18446744073709551616) (hU : U < Y) (ha : a = Y / 4294967296) (hb : b = Y % 4294967296) :
    ∃ Q1 R1 Q0 R0 : Nat, Q1 = U * 4294967296 / Y ∧ R1 = U * 4294967296 % Y ∧ Q0 = R1 * 4294967296 / Y ∧ R0 = R1 * 4294967296 % Y ∧ Q1 < 4294967296 ∧ Q0 < 4294967296 ∧ R1 < Y ∧ R0 < Y ∧
      U * 4294967296 = Q1 * Y + R1 ∧ R1 * 4294967296 = Q0 * Y + R0 := by
  have hyab : a * 4294967296 + b = Y := by omega
  have hYp : 0 < Y := by omega
  have r1 := Nat.mod_lt (U * 4294967296) hYp
  refine ⟨_, _, _, _, rfl, rfl, rfl, rfl, dig_lt0 U a b Y hyab hU, dig_lt0 _ a b Y hyab r1, r1, Nat.mod_lt _ hYp, ?_, ?_⟩
  · rw [Nat.mul_comm (U * 4294967296 / Y)]; exact (Nat.div_add_mod _ _).symm
  · rw [Nat.mul_comm (U * 4294967296 % Y * 4294967296 / Y)]; exact (Nat.div_add_mod _ _).symm

/-- math/bits.Div64(2^(l-1), 0, y) where l is y's bit length, y no power of two, y below 2^63. -/
theorem div64 (l y N H : Nat) (w : World) (hl : Lib.bitLen y = l) (l1 : 2 ≤ l) (l2 : l ≤ 63) (hH : H = 2 ^ (l - 1)) (hlo : H < y) (hhi : y < 2 ^ l) (hN : N = 2 ^ (63 + l)) :
    Calls Ybad.prog 8 #[.int .u64 H, .int .u64 0, .int .u64 y] w fun e w' => e = .returned (.tuple #[.int .u64 ((N / y : Nat) : Int), .int .u64 ((N % y : Nat) : Int)]) ∧ w' = w := by
  obtain ⟨S, hS⟩ : ∃ S, S = 2 ^ (64 - l) := ⟨_, rfl⟩
  have hp : 0 < S := by rw [hS]; exact Nat.two_pow_pos _
  have hp0 : 0 < H := by rw [hH]; exact Nat.two_pow_pos _
  have eU : H * S = 9223372036854775808 := by rw [hH, hS, ← Nat.pow_add, show l - 1 + (64 - l) = 63 by omega]
  have eM : 2 ^ l * S = 18446744073709551616 := by rw [hS, ← Nat.pow_add, show l + (64 - l) = 64 by omega]
  have eN : N * S = H * S * (4294967296 * 4294967296) := by
    have e : (4294967296 * 4294967296 : Nat) = 2 ^ 64 := rfl
    rw [e, hN, hS, hH, ← Nat.pow_add, ← Nat.pow_add, ← Nat.pow_add]; congr 1; omega
  have hYlo : H * S < y * S := Nat.mul_lt_mul_of_pos_right hlo hp
  have hYhi : y * S < 18446744073709551616 := by rw [← eM]; exact Nat.mul_lt_mul_of_pos_right hhi hp
  have hyl : y < 18446744073709551616 := Nat.lt_of_le_of_lt (Nat.le_mul_of_pos_right y hp) hYhi
  have cY : IntKind.u64.wrap ((y : Int) * 2 ^ (64 - l)) = ((y * S : Nat) : Int) := by
    have : ((y : Int) * 2 ^ (64 - l)) = ((y * S : Nat) : Int) := by rw [hS]; simp
    rw [this]; exact wrap_small _ hYhi
  have cU : IntKind.u64.wrap ((H : Int) * 2 ^ (64 - l)) = ((H * S : Nat) : Int) := by
    have : ((H : Int) * 2 ^ (64 - l)) = ((H * S : Nat) : Int) := by rw [hS]; simp
    rw [this]; exact wrap_small _ (by omega)
  have cR : ∀ R : Nat, (R : Int) / 2 ^ (64 - l) = ((R / S : Nat) : Int) := by intro R; rw [hS]; simp
  have f1 : H * S * (4294967296 * 4294967296) / (y * S) = N / y := by rw [← eN, Nat.mul_div_mul_right _ _ hp]
  have f2 : H * S * (4294967296 * 4294967296) % (y * S) / S = N % y := by rw [← eN, Nat.mul_mod_mul_right, Nat.mul_div_cancel _ hp]
  rw [eU] at hYlo
  clear eN eM hS hH hN
  obtain ⟨U, hU⟩ : ∃ U, U = H * S := ⟨_, rfl⟩
  obtain ⟨Y, hY⟩ : ∃ Y, Y = y * S := ⟨_, rfl⟩
  rw [← hU, ← hY] at f1 f2
  rw [← hU] at cU eU
  rw [← hY] at cY hYlo hYhi
  obtain ⟨a, ha⟩ : ∃ a, a = Y / 4294967296 := ⟨_, rfl⟩
  obtain ⟨b, hb⟩ : ∃ b, b = Y % 4294967296 := ⟨_, rfl⟩
  have hyab : a * 4294967296 + b = Y := by omega
  obtain ⟨d1, d2⟩ := two_digits U Y 4294967296 (by omega)
  obtain ⟨Q1, R1, Q0, R0, q1, q2, q3, q4, k1, k2, r1, r2, m1, m2⟩ := digits Y U a b hYlo hYhi (by omega) ha hb
  have st1 := Dig.start U a b 0 (by omega) (by omega) (by omega) (by omega) (by omega)
  have st2 := Dig.start R1 a b 0 (by omega) (by omega) (by omega) (by omega) (by omega)
  have hq00 : U / a < 18446744073709551616 := Nat.lt_of_le_of_lt (Nat.div_le_self _ _) (by omega)
  have hq01 : R1 / a < 18446744073709551616 := Nat.lt_of_le_of_lt (Nat.div_le_self _ _) (by omega)
  have hz1 : U = U / a * a + U % a := by rw [Nat.mul_comm]; exact (Nat.div_add_mod _ _).symm
  have hz2 : R1 = R1 / a * a + R1 % a := by rw [Nat.mul_comm]; exact (Nat.div_add_mod _ _).symm
  have g1 : Q1 * 4294967296 + Q0 = N / y := by rw [← f1, d1, ← q2, ← q1, ← q3]
  have g2 : R0 / S = N % y := by rw [← f2, d2, ← q2, ← q4]
  clear f1 f2 d1 d2
  have x1 : IntKind.u64.wrap ((U : Int) / (a : Int)) = ((U / a : Nat) : Int) := by rw [← Int.natCast_ediv]; exact wrap_small _ hq00
  have x2 : IntKind.u64.wrap ((U : Int) - IntKind.u64.wrap (((U / a : Nat) : Int) * (a : Int))) = ((U % a : Nat) : Int) := by rw [← Int.natCast_mul]; exact rest_is' U _ _ hz1 (by omega)
  have x3 : IntKind.u64.wrap ((R1 : Int) / (a : Int)) = ((R1 / a : Nat) : Int) := by rw [← Int.natCast_ediv]; exact wrap_small _ hq01
  have x4 : IntKind.u64.wrap ((R1 : Int) - IntKind.u64.wrap (((R1 / a : Nat) : Int) * (a : Int))) = ((R1 % a : Nat) : Int) := by rw [← Int.natCast_mul]; exact rest_is' R1 _ _ hz2 (by omega)
  have x5 : IntKind.u64.wrap (IntKind.u64.wrap (IntKind.u64.wrap ((U : Int) * 4294967296)) - IntKind.u64.wrap ((Q1 : Int) * (Y : Int))) = (R1 : Int) := by
    rw [show ((U : Int) * 4294967296) = ((U * 4294967296 : Nat) : Int) by omega, ← Int.natCast_mul]; exact rest_is _ _ _ m1 (by omega)
  have x6 : IntKind.u64.wrap (IntKind.u64.wrap (IntKind.u64.wrap ((R1 : Int) * 4294967296)) - IntKind.u64.wrap ((Q0 : Int) * (Y : Int))) = (R0 : Int) := by
    rw [show ((R1 : Int) * 4294967296) = ((R1 * 4294967296 : Nat) : Int) by omega, ← Int.natCast_mul]; exact rest_is _ _ _ m2 (by omega)
  have x7 : (U * 4294967296 + 0) / (a * 4294967296 + b) = Q1 := by rw [hyab, Nat.add_zero]; exact q1.symm
  have x8 : (R1 * 4294967296 + 0) / (a * 4294967296 + b) = Q0 := by rw [hyab, Nat.add_zero]; exact q3.symm
  have y1 : bits .and .u64 (Y : Int) 4294967295 = (b : Int) := by rw [Mul.maskN Y hYhi, hb]
  have y2 : bits .or .u64 (U : Int) 0 = (U : Int) := by
    have := u64_or_nat U 0 (by omega) (by omega)
    simpa using this
  have y3 : bits .and .u64 (0 : Int) 4294967295 = 0 := by
    have := Mul.maskN 0 (by omega)
    simpa using this
  have key := div64_core H y l Y U a b (U / a) (U % a) Q1 R1 (R1 / a) (R1 % a) Q0 R0 (R0 / S) w hp0 hlo hyl hl (by omega) l2 (by simp; omega) (by simp; omega)
    cY cU (by omega) y1 y2 y3 (by omega) (by omega) (by omega) (by omega) (show U < a * 4294967296 + b by omega) x1 x2 st1 x7 k1 x5 (by omega) (show R1 < a * 4294967296 + b by omega) x3 x4 st2 x8 k2 x6 (by omega) (cR R0)
  rw [show ((Q1 : Int) * 4294967296 + (Q0 : Int)) = ((Q1 * 4294967296 + Q0 : Nat) : Int) by omega, g1, g2] at key
  exact key

end Go.Proofs.YbulkdlkuDoorR
