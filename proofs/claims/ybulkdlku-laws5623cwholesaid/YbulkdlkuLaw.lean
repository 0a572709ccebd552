/-
  The walk over zz_law_s5623c.go's LawS5623CWhole.
-/
import Derived.Test.YbulkdlkuInv
import Derived.Deep.Light
namespace Go.Proofs.Ybulkdlku
open Go.RowKit

theorem Hid.mk {p : Prop} (h : p) : Hid p := h
theorem info1 : (Yba.prog.info? 1).map (fun i => (i.zero, i.size, i.bytes)) = some (some .nilFunc, 1, 8) := by kernel_rfl
theorem info4 : (Yba.prog.info? 4).map (fun i => (i.zero, i.size, i.bytes)) = some (some (.bool false), 1, 1) := by kernel_rfl

/-- A row that make has just laid: each cell the zero; none frozen. -/
theorem made_cells {w' : World} {base e g n : Nat} {z : Value} (hown : w'.ownsRow base e 1 (.slice (some ⟨g, 0, none⟩) n n) n (madeCells #[z] n).toList) :
    (∀ j, j < n → w'.cell? ⟨g, j, none⟩ = some z) ∧ (∀ j, w'.frozen? ⟨g, j, none⟩ = false) ∧ g < w'.heap.size := by
  refine ⟨fun j hj => ?_, fun j => hown.frozenAt j, ?_⟩
  · rw [hown.cellAt j (by omega), toList_madeCells_one]; simp [hj]
  · exact (hown.lt g rfl).2

theorem Inv1.start {w w1 : World} {n : Nat} {P : Nat → Bool} (hown : w1.ownsRow (w.heap.size + 1) 1 1 (.slice (some ⟨w.heap.size + 1, 0, none⟩) n n) n (madeCells #[.nilFunc] n).toList)
    (hg : (w.alloc (.cells #[.slice none 0 0] 23)).grownBy w1 none) : Inv1 w w1 n 0 w.heap.size (w.heap.size + 1) P (fun _ => 0) := by
  obtain ⟨a, b, c⟩ := made_cells hown
  have e : w1.heap[w.heap.size]? = (w.alloc (.cells #[.slice none 0 0] 23)).heap[w.heap.size]? := hg.block _ (by simp) (by simp)
  refine ⟨((Below.refl _ w).alloc (Nat.le_refl _) _).grown hg (by simp) (by intro k hk; cases hk), ⟨Nat.le_refl _, by omega, c⟩, ?_, ?_, fun j hj => ?_, b, fun j hj => by omega⟩
  · rw [World.cell?_of_block (w := w.alloc (.cells #[.slice none 0 0] 23)) e]; simp
  · rw [World.frozen?_of_block (w := w.alloc (.cells #[.slice none 0 0] 23)) e]; simp
  · rw [a j hj]; simp [fcell]

set_option maxRecDepth 100000 in
set_option maxHeartbeats 1000000 in
theorem law_A_neg (pb poff n cp : Nat) (a1 s : Int) (k : Nat) (P : Nat → Bool) (w : World) (hn : n ≤ 1048576) (hk : k ≤ 255)
    (HP : Hid (∀ j, j < n → w.cell? ⟨pb, poff + j, none⟩ = some (.bool (P j))))
    (_hs0 : 0 ≤ s) (hs1 : s ≤ 9223372036854775807) (hs : (a1 < 0 ∧ -9223372036854775808 ≤ a1 ∧ -(a1 + 1) = s)) :
    Calls Yba.prog 3 #[.slice (some ⟨pb, poff, none⟩) n cp, .int .i64 a1, .int .u8 k] w fun e w' => e = .returned (.bool true) ∧ Below w.heap.size w w' := by
  obtain ⟨i1, hi1, hy0, hy1, hy2⟩ := info_parts info1
  obtain ⟨i4, hi4, hx0, hx1, hx2⟩ := info_parts info4
  have hmf : ∀ (fn : Fn) (first cap : Array Value) (w : World), (Instr.makeFunc fn first cap).run Yba.prog w = .ok (.func fn first cap) w := fun _ _ _ _ => rfl
  have hnot : ∀ (x : Bool) (w : World), (Op.unary .not (.bool x)).run Yba.prog w = .ok (.bool (!x)) w := fun _ _ => rfl
  have q1 : ∀ w : World, (binOp .neq 1 .nilFunc .nilFunc).run Yba.prog w = .ok (.bool false) w := fun _ => by kernel_rfl
  have q2 : ∀ (L J : Nat) (w : World), (binOp .neq 1 (.func (.func 4) #[] #[.pointer (some ⟨L, 0, none⟩), .pointer (some ⟨J, 0, none⟩)]) .nilFunc).run Yba.prog w = .ok (.bool true) w := fun _ _ _ => by kernel_rfl
  have q3 : ∀ (L J : Nat) (w : World), (binOp .eql 1 (.func (.func 4) #[] #[.pointer (some ⟨L, 0, none⟩), .pointer (some ⟨J, 0, none⟩)]) .nilFunc).run Yba.prog w = .ok (.bool false) w := fun _ _ _ => by kernel_rfl
  obtain ⟨c1, c2, c3⟩ := hs
  go_enter Yba.func3, Yba.ntmps3
  go_wp2_with (at_make; refine wpList_make_full _ rfl (.tmp 35) (.tmp 35) 24 rfl (w.heap.size + 1) 1 i1 .nilFunc 1 Yba.underlying24 hi1 hy0 hy1 _ _ _ _ n rfl rfl rfl rfl (by rw [hy2]; omega) (by unfold maxLen; omega) (by simp) ?_)
  intro w1 hown1 hgrow1
  have I0 : Hid (Inv1 w w1 n 0 w.heap.size (w.heap.size + 1) P (fun _ => 0)) := Inv1.start hown1 hgrow1
  clear hown1 hgrow1
  go_wp2
  go_loopw [11] (fun i wr => ∃ (j : Nat) (J : Nat → Nat), j ≤ n ∧ i = .int .i64 j ∧ Hid (Inv1 w wr n j w.heap.size (w.heap.size + 1) P J)) (fun i _ => n - (intOf i).toNat)
  case atStart => exact ⟨0, _, Nat.zero_le _, rfl, I0⟩
  case round =>
    obtain ⟨j, J, hj, rfl, I⟩ := hrel
    clear I0
    by_cases hlt : j < n
    · have i1' : (j : Int) < (n : Int) := by omega
      have hF : w.heap.size + 1 < wr.heap.size := I.out.ord.2.2
      cases hp : P j with
      | true =>
        have f1 : wr.cell? ⟨pb, poff + j, none⟩ = some (.bool true) := by rw [← hp]; exact cell_later I.out.below (HP.out j hlt)
        have f2 : wr.cell? ⟨w.heap.size + 1, j, none⟩ = some .nilFunc := by rw [I.out.fs j hlt]; simp [fcell]
        have f3 : wr.frozen? ⟨w.heap.size + 1, j, none⟩ = false := I.out.ff j
        have hpb : pb < wr.heap.size := World.block_lt_of_cell? _ _ f1
        have I' := I.out.put hp hlt
        have HI : Hid (Inv1 w ((wr.setCell ⟨w.heap.size + 1, j, none⟩ (.func (.func 4) #[] #[.pointer (some ⟨w.heap.size, 0, none⟩), .pointer (some ⟨wr.heap.size, 0, none⟩)])).alloc (.cells #[.int .i64 j] 3)) n (j + 1) w.heap.size (w.heap.size + 1) P (fun i => if i = j then wr.heap.size else J i)) := I'
        clear I' I
        go_wp2
        go_roundw
        case rel => exact ⟨j + 1, _, by omega, by go_num, HI⟩
        case measure => simp [intOf]; omega
      | false =>
        have f1 : wr.cell? ⟨pb, poff + j, none⟩ = some (.bool false) := by rw [← hp]; exact cell_later I.out.below (HP.out j hlt)
        have HI : Hid (Inv1 w wr n (j + 1) w.heap.size (w.heap.size + 1) P J) := I.out.keep hp
        clear I
        go_wp2
        go_roundw
        case rel => exact ⟨j + 1, _, by omega, by go_num, HI⟩
        case measure => simp [intOf]; omega
    · have I2 : Hid (Inv1 w wr n n w.heap.size (w.heap.size + 1) P J) := by
        have e : j = n := by omega
        rw [e] at I
        exact I
      clear I
      go_wp2_with (first | (go_at_call 5; refine (store_any _ _ s (.int .i64 0) _ (by go_simp) (by go_simp)).mono ?_; rintro e w' ⟨rfl, rfl⟩) | (at_make; refine wpList_make_full _ rfl (.tmp 59) (.tmp 59) 22 rfl (wr.heap.size + 1) 4 i4 (.bool false) 1 Yba.underlying22 hi4 hx0 hx1 _ _ _ _ n rfl rfl rfl rfl (by rw [hx2]; omega) (by unfold maxLen; omega) (by simp) ?_))
      intro w3 hown3 hgrow3
      have I3 : Hid (Inv2 w w3 n w.heap.size (w.heap.size + 1) wr.heap.size (wr.heap.size + 1) w3.heap.size P (fun _ => false) J s []) := by
        obtain ⟨a, b, c⟩ := made_cells hown3
        exact Inv2.start I2.out hgrow3 a b c
      clear I2 hown3 hgrow3 hlt hj
      obtain ⟨wb, hwb⟩ : ∃ wb, wb = wr := ⟨wr, rfl⟩
      subst hwb
      go_wp2
      go_loopw [15, 16] (fun mv st wq => ∃ (m : Int) (t : Nat) (tk : Nat → Bool) (xs : List Int), mv = .int .i64 m ∧ st = .int .i64 t ∧ t ≤ k ∧ xs.length ≤ t ∧ -9223372036854775808 ≤ m ∧ m ≤ 9223372036854775807 ∧ Hid (Inv2 w wq n w.heap.size (w.heap.size + 1) wb.heap.size (wb.heap.size + 1) w3.heap.size P tk J m xs)) (fun _ st _ => k - (intOf st).toNat)
      case atStart => exact ⟨s, 0, _, [], rfl, rfl, Nat.zero_le _, Nat.le_refl _, by omega, hs1, I3⟩
      case round =>
        obtain ⟨m, t, tk, xs, rfl, rfl, ht, hxt, hm1, hm2, I⟩ := hrel
        clear I3
        have o1 : w.heap.size + 1 < wb.heap.size := I.out.ord.2.2.1
        have o2 : wb.heap.size + 1 < w3.heap.size := I.out.ord.2.2.2.2.1
        have o3 : w3.heap.size ≤ wr.heap.size := I.out.ord.2.2.2.2.2
        by_cases hlt : (t : Int) < (k : Int)
        · by_cases hm0 : m < 0
          · have hx : xs.length ≤ 255 := by omega
            have f0 := I.out.b0
            go_wp2
            go_loopw [21] (fun jv wq => ∃ (j : Nat) (ys : List Int), j ≤ n ∧ jv = .int .i64 j ∧ ys.length ≤ 255 + j ∧ Hid (Inv2 w wq n w.heap.size (w.heap.size + 1) wb.heap.size (wb.heap.size + 1) w3.heap.size P tk J m ys)) (fun jv _ => n - (intOf jv).toNat)
            case atStart => exact ⟨0, xs, Nat.zero_le _, rfl, by omega, I⟩
            case round =>
              obtain ⟨j, ys, hj, rfl, hy, I'⟩ := hrel
              clear I f0
              by_cases hlt3 : j < n
              · have i3 : (j : Int) < (n : Int) := by omega
                have f0 := I'.out.b0
                have f3 := I'.out.fs j hlt3
                have f5 := I'.out.ts j hlt3
                have f7 : wr.cell? ⟨pb, poff + j, none⟩ = some (.bool (P j)) := cell_later I'.out.below (HP.out j hlt3)
                cases hp : P j with
                | false =>
                  rw [hp] at f3 f7
                  simp only [Bool.false_and, fcell_false] at f3
                  go_wp2
                  go_roundw
                  case rel => exact ⟨j + 1, ys, by omega, by go_num, by omega, I'⟩
                  case measure => simp [intOf]; omega
                | true =>
                  rw [hp] at f3 f7
                  cases htk : tk j with
                  | true =>
                    rw [htk] at f3 f5
                    simp only [Bool.not_true, Bool.and_false, fcell_false] at f3
                    go_wp2
                    go_roundw
                    case rel => exact ⟨j + 1, ys, by omega, by go_num, by omega, I'⟩
                    case measure => simp [intOf]; omega
                  | false =>
                    rw [htk] at f3 f5
                    simp only [Bool.not_false, Bool.and_true, fcell_true] at f3
                    obtain ⟨ao, cap, l1, l2⟩ := I'.out.log
                    have l3 := I'.out.fL
                    obtain ⟨j1, j2, j3⟩ := I'.out.js j hlt3 hp
                    have LO := Hid.mk l2
                    have o4 : w3.heap.size ≤ wr.heap.size := I'.out.ord.2.2.2.2.2
                    have i2 : (ys.length : Int) < ((ys.length + 1 : Nat) : Int) := by omega
                    clear l2
                    go_wp2_with fail
                    refine (note _ _ w3.heap.size _ ys j _ l1 l3 j3 LO.out (by omega) o4 (by omega)).mono ?_
                    rintro e w5 ⟨rfl, hbut, hlog⟩
                    have HJ := Hid.mk (I'.out.note hbut hlog)
                    obtain ⟨g, cap', m1, _, m3⟩ := hlog
                    have m4 : w5.cell? ⟨g, ys.length, none⟩ = some (.int .i64 j) := by rw [m3.cellAt ys.length (by omega)]; simp [logOf]
                    clear I' LO l1 l3 j1 j2 j3 hbut m3
                    go_wp2
                    go_roundw
                    case rel => exact ⟨j + 1, ys ++ [(j : Int)], by omega, by go_num, by simp; omega, HJ⟩
                    case measure => simp [intOf]; omega
              · have hb := I'.out.below
                go_wp2
                go_ret
                exact ⟨rfl, hb⟩
          · by_cases hmn : (n : Int) ≤ m
            · have f0 := I.out.b0
              have f1 := I.out.b1
              have f2 := I.out.fb
              by_cases hmx : m = 9223372036854775807
              · obtain ⟨s', hs'⟩ : ∃ s', wrap64 (m + 1) = s' := ⟨_, rfl⟩
                have hs2 : IntKind.i64.wrap (m + 1) = s' := by rw [IntWalk.i64_left]; exact hs'
                have hs3 : wrap64 (s' - 1) = m := by rw [← hs', hmx]; unfold wrap64; omega
                have hs4 : -9223372036854775808 ≤ s' ∧ s' ≤ 9223372036854775807 := by rw [← hs', hmx]; unfold wrap64; omega
                have HI : Hid (Inv2 w (wr.setCell ⟨wb.heap.size, 1, none⟩ (.int .i64 s')) n w.heap.size (w.heap.size + 1) wb.heap.size (wb.heap.size + 1) w3.heap.size P tk J s' xs) := I.out.step s'
                clear I hmx
                go_wp2_with (first | (go_at_call 6; refine (claim_past _ _ n m s' _ f0 f1 f2 hs2 hs3 hmn).mono ?_; rintro e w' ⟨rfl, rfl⟩) | (go_at_call 7; refine (load_any _ _ s' _ (by exact HI.out.b1)).mono ?_; rintro e w' ⟨rfl, rfl⟩))
                go_roundw
                case rel => exact ⟨s', t + 1, tk, xs, rfl, by go_num, by omega, by omega, hs4.1, hs4.2, HI⟩
                case measure => simp [intOf]; omega
              · have hs2 : IntKind.i64.wrap (m + 1) = m + 1 := IntWalk.i64_in _ (by omega)
                have hs3 : wrap64 (m + 1 - 1) = m := by rw [IntWalk.wrap64_in _ (by omega)]; omega
                have HI : Hid (Inv2 w (wr.setCell ⟨wb.heap.size, 1, none⟩ (.int .i64 (m + 1))) n w.heap.size (w.heap.size + 1) wb.heap.size (wb.heap.size + 1) w3.heap.size P tk J (m + 1) xs) := I.out.step (m + 1)
                have H2 : Hid (IntKind.i64.wrap (m + 1) = m + 1) := hs2
                have H3 : Hid (wrap64 (m + 1 - 1) = m) := hs3
                clear I hs2 hs3
                go_wp2_with (first | (go_at_call 6; refine (claim_past _ _ n m (m + 1) _ f0 f1 f2 H2.out H3.out hmn).mono ?_; rintro e w' ⟨rfl, rfl⟩) | (go_at_call 7; refine (load_any _ _ (m + 1) _ (by exact HI.out.b1)).mono ?_; rintro e w' ⟨rfl, rfl⟩))
                go_roundw
                case rel => exact ⟨m + 1, t + 1, tk, xs, rfl, by go_num, by omega, by omega, by omega, by omega, HI⟩
                case measure => simp [intOf]; omega
            · obtain ⟨i, rfl⟩ : ∃ i : Nat, m = (i : Int) := ⟨m.toNat, by omega⟩
              have hin : i < n := by omega
              have f0 := I.out.b0
              have f1 := I.out.b1
              have f2 := I.out.fb
              have f3 := I.out.fs i hin
              have f4 := I.out.ff i
              have f5 := I.out.ts i hin
              have f6 := I.out.ft i
              have f7 : wr.cell? ⟨pb, poff + i, none⟩ = some (.bool (P i)) := cell_later I.out.below (HP.out i hin)
              have hpb : pb < w.heap.size := World.block_lt_of_cell? _ _ (HP.out i hin)
              have HI : Hid (Inv2 w (((wr.setCell ⟨wb.heap.size, 1, none⟩ (.int .i64 ((i : Int) + 1))).setCell ⟨w.heap.size + 1, i, none⟩ .nilFunc).setCell ⟨wb.heap.size + 1, i, none⟩ (.bool true)) n w.heap.size (w.heap.size + 1) wb.heap.size (wb.heap.size + 1) w3.heap.size P (fun j => if j = i then true else tk j) J ((i : Int) + 1) xs) := I.out.claim i hin _
              have hBF : ¬ wb.heap.size = w.heap.size + 1 := by omega
              cases hp : P i with
              | false =>
                rw [hp] at f3 f7
                simp only [Bool.false_and, fcell_false] at f3
                clear I
                go_wp2_with (first | (go_at_call 6; refine (claim_at _ _ n i _ _ hBF f0 f1 f2 f3 f4 hin hn).mono ?_; rintro e w' ⟨rfl, rfl⟩) | (go_at_call 7; refine (load_any _ _ ((i : Int) + 1) _ (by go_simp)).mono ?_; rintro e w' ⟨rfl, rfl⟩))
                go_roundw
                case rel => exact ⟨(i : Int) + 1, t + 1, _, xs, rfl, by go_num, by omega, by omega, by omega, by omega, HI⟩
                case measure => simp [intOf]; omega
              | true =>
                rw [hp] at f3 f7
                cases htk : tk i with
                | true =>
                  rw [htk] at f3 f5
                  simp only [Bool.not_true, Bool.and_false, fcell_false] at f3
                  clear I
                  go_wp2_with (first | (go_at_call 6; refine (claim_at _ _ n i _ _ hBF f0 f1 f2 f3 f4 hin hn).mono ?_; rintro e w' ⟨rfl, rfl⟩) | (go_at_call 7; refine (load_any _ _ ((i : Int) + 1) _ (by go_simp)).mono ?_; rintro e w' ⟨rfl, rfl⟩))
                  go_roundw
                  case rel => exact ⟨(i : Int) + 1, t + 1, _, xs, rfl, by go_num, by omega, by omega, by omega, by omega, HI⟩
                  case measure => simp [intOf]; omega
                | false =>
                  rw [htk] at f3 f5
                  simp only [Bool.not_false, Bool.and_true, fcell_true] at f3
                  obtain ⟨ao, cap, l1, l2⟩ := HI.out.log
                  have l3 := HI.out.fL
                  obtain ⟨j1, j2, j3⟩ := HI.out.js i hin hp
                  have LO := Hid.mk l2
                  have i2 : (xs.length : Int) < ((xs.length + 1 : Nat) : Int) := by omega
                  clear I l2
                  go_wp2_with (first | (go_at_call 6; refine (claim_at _ _ n i _ _ hBF f0 f1 f2 f3 f4 hin hn).mono ?_; rintro e w' ⟨rfl, rfl⟩) | (go_at_call 7; refine (load_any _ _ ((i : Int) + 1) _ (by go_simp)).mono ?_; rintro e w' ⟨rfl, rfl⟩))
                  refine (note _ _ w3.heap.size _ xs i _ l1 l3 j3 LO.out (by omega) (by simpa [World.setCell] using o3) (by omega)).mono ?_
                  rintro e w5 ⟨rfl, hbut, hlog⟩
                  have HJ := Hid.mk (HI.out.note hbut hlog)
                  obtain ⟨g, cap', m1, _, m3⟩ := hlog
                  have m4 : w5.cell? ⟨g, xs.length, none⟩ = some (.int .i64 i) := by rw [m3.cellAt xs.length (by omega)]; simp [logOf]
                  clear HI LO l1 l3 j1 j2 j3 hbut m3
                  go_wp2
                  go_roundw
                  case rel => exact ⟨(i : Int) + 1, t + 1, _, xs ++ [(i : Int)], rfl, by go_num, by omega, by simp; omega, by omega, by omega, HJ⟩
                  case measure => simp [intOf]; omega
        · have hx : xs.length ≤ 255 := by omega
          have f0 := I.out.b0
          go_wp2
          go_loopw [21] (fun jv wq => ∃ (j : Nat) (ys : List Int), j ≤ n ∧ jv = .int .i64 j ∧ ys.length ≤ 255 + j ∧ Hid (Inv2 w wq n w.heap.size (w.heap.size + 1) wb.heap.size (wb.heap.size + 1) w3.heap.size P tk J m ys)) (fun jv _ => n - (intOf jv).toNat)
          case atStart => exact ⟨0, xs, Nat.zero_le _, rfl, by omega, I⟩
          case round =>
            obtain ⟨j, ys, hj, rfl, hy, I'⟩ := hrel
            clear I f0
            by_cases hlt3 : j < n
            · have i3 : (j : Int) < (n : Int) := by omega
              have f0 := I'.out.b0
              have f3 := I'.out.fs j hlt3
              have f5 := I'.out.ts j hlt3
              have f7 : wr.cell? ⟨pb, poff + j, none⟩ = some (.bool (P j)) := cell_later I'.out.below (HP.out j hlt3)
              cases hp : P j with
              | false =>
                rw [hp] at f3 f7
                simp only [Bool.false_and, fcell_false] at f3
                go_wp2
                go_roundw
                case rel => exact ⟨j + 1, ys, by omega, by go_num, by omega, I'⟩
                case measure => simp [intOf]; omega
              | true =>
                rw [hp] at f3 f7
                cases htk : tk j with
                | true =>
                  rw [htk] at f3 f5
                  simp only [Bool.not_true, Bool.and_false, fcell_false] at f3
                  go_wp2
                  go_roundw
                  case rel => exact ⟨j + 1, ys, by omega, by go_num, by omega, I'⟩
                  case measure => simp [intOf]; omega
                | false =>
                  rw [htk] at f3 f5
                  simp only [Bool.not_false, Bool.and_true, fcell_true] at f3
                  obtain ⟨ao, cap, l1, l2⟩ := I'.out.log
                  have l3 := I'.out.fL
                  obtain ⟨j1, j2, j3⟩ := I'.out.js j hlt3 hp
                  have LO := Hid.mk l2
                  have o4 : w3.heap.size ≤ wr.heap.size := I'.out.ord.2.2.2.2.2
                  have i2 : (ys.length : Int) < ((ys.length + 1 : Nat) : Int) := by omega
                  clear l2
                  go_wp2_with fail
                  refine (note _ _ w3.heap.size _ ys j _ l1 l3 j3 LO.out (by omega) o4 (by omega)).mono ?_
                  rintro e w5 ⟨rfl, hbut, hlog⟩
                  have HJ := Hid.mk (I'.out.note hbut hlog)
                  obtain ⟨g, cap', m1, _, m3⟩ := hlog
                  have m4 : w5.cell? ⟨g, ys.length, none⟩ = some (.int .i64 j) := by rw [m3.cellAt ys.length (by omega)]; simp [logOf]
                  clear I' LO l1 l3 j1 j2 j3 hbut m3
                  go_wp2
                  go_roundw
                  case rel => exact ⟨j + 1, ys ++ [(j : Int)], by omega, by go_num, by simp; omega, HJ⟩
                  case measure => simp [intOf]; omega
            · have hb := I'.out.below
              go_wp2
              go_ret
              exact ⟨rfl, hb⟩
end Go.Proofs.Ybulkdlku
