/-
  ZZfieldTables (5) by fieldTables' contract; gfMulModel (6).
-/
import Derived.Test.Qxb6623484aTables
namespace Go.Proofs.Qxb6623484a
open Go.RowKit

theorem hi22 : (Try.prog.info? 22).map (·.size) = some 510 := (zero_of_info info22).2
theorem hi23 : (Try.prog.info? 23).map (·.size) = some 256 := (zero_of_info info23).2

set_option maxRecDepth 100000 in
set_option maxHeartbeats 400000 in
theorem zz_any (w : World) :
    Calls Try.prog 5 #[] w fun e w' => e = .returned (.tuple #[.agg (eA 255), .agg (lA 255)]) ∧ Below w.heap.size w w' := by
  have z22 := (zero_of_info info22).1
  have z23 := (zero_of_info info23).1
  go_enter Try.func5, Try.ntmps5
  go_wp2_with fail
  refine (tables_any _).mono ?_
  rintro e w2 ⟨rfl, hb⟩
  have hsz := hb.size
  have h0 : w2.heap[w.heap.size]? = some (.cells (eA 0) 22 (0, 0)) := (hb.block _ (by simp; omega)).trans (heap_alloc2_old _ _ _)
  have h1 : w2.heap[w.heap.size + 1]? = some (.cells (lA 0) 23 (0, 0)) := (hb.block _ (by simp)).trans (heap_alloc2_new _ _ _)
  have hbel : Below w.heap.size w w2 := (((Below.refl _ _).alloc (Nat.le_refl _) _).alloc (by simp) _).trans (hb.mono (by simp; omega))
  have HB : Hid (Below w.heap.size w w2) := hbel
  have H0 : Hid (w2.heap[w.heap.size]? = some (.cells (eA 0) 22 (0, 0))) := h0
  have H1 : Hid (w2.heap[w.heap.size + 1]? = some (.cells (lA 0) 23 (0, 0))) := h1
  clear hb hbel h0 h1 z22 z23 hsz
  go_wp2_with (first
    | (refine wpList_store_whole rfl 22 (.tmp 0) (.tmp 3) rfl w.heap.size (eA 0) (eA 255) rfl rfl H0.out (by rw [eA_size]; exact hi22) (by rw [eA_size, eA_size]) (eA_one 255) ?_)
    | (refine wpList_store_whole rfl 23 (.tmp 1) (.tmp 4) rfl (w.heap.size + 1) (lA 0) (lA 255) rfl rfl ((setRow_other _ _ _ _ (by omega)).trans H1.out) (by rw [lA_size]; exact hi23) (by rw [lA_size, lA_size]) (lA_one 255) ?_))
  have e0 : ((w2.setRow w.heap.size (eA 255)).setRow (w.heap.size + 1) (lA 255)).heap[w.heap.size]? = some (.cells (eA 255) 22 (0, 0)) :=
    (setRow_other _ _ _ _ (by omega)).trans (setRow_heap _ _ _ _ _ _ H0.out)
  have e1 : ((w2.setRow w.heap.size (eA 255)).setRow (w.heap.size + 1) (lA 255)).heap[w.heap.size + 1]? = some (.cells (lA 255) 23 (0, 0)) :=
    setRow_heap _ _ _ _ _ _ ((setRow_other _ _ _ _ (by omega)).trans H1.out)
  refine bodyPost_ret (v := .tuple #[.agg (eA 255), .agg (lA 255)]) ?_ rfl ⟨rfl, below_setRow (below_setRow HB.out (Nat.le_refl _) _) (by omega) _⟩
  exact results_two_rows rfl _ _ w.heap.size (w.heap.size + 1) 22 23 (eA 255) (lA 255) (0, 0) (0, 0) _ _ rfl rfl e0 e1 Try.underlying22 Try.underlying23 rfl rfl (by rw [eA_size]; exact hi22) (by rw [lA_size]; exact hi23)

/-! ### gfMulModel -/
/-- The test of a bit, as the walk writes it. -/
theorem bit_yes {y m : Nat} (hy : y < 65536) (hm : m < 65536) (h : (bits BinOp.and IntKind.u64 (y : Int) (m : Int) != 0) = true) : Nat.beq (Nat.land y m) 0 = false := by
  rw [bits_and_u64_nat y m (by omega) (by omega)] at h
  cases hq : Nat.beq (Nat.land y m) 0
  · rfl
  · have e : y &&& m = 0 := Nat.eq_of_beq_eq_true hq
    rw [e] at h
    cases h
theorem bit_no {y m : Nat} (hy : y < 65536) (hm : m < 65536) (h : (bits BinOp.and IntKind.u64 (y : Int) (m : Int) != 0) = false) : Nat.beq (Nat.land y m) 0 = true := by
  rw [bits_and_u64_nat y m (by omega) (by omega)] at h
  have e : y &&& m = 0 := by simpa using h
  show Nat.beq (y &&& m) 0 = true
  rw [e]
  rfl
theorem xor_nat {p x : Nat} (hp : p < 65536) (hx : x < 65536) : bits BinOp.xor IntKind.u64 (p : Int) (x : Int) = ((Nat.xor p x : Nat) : Int) :=
  bits_xor_u64_nat p x (by omega) (by omega)
theorem xor_lt {p x : Nat} (hp : p < 65536) (hx : x < 65536) : Nat.xor p x < 65536 := Nat.xor_lt_two_pow (n := 16) hp hx
theorem p_yes {a b k p x y : Nat} (hp : p = Fld.pK a b k) (hx : x = a * 2 ^ k) (hy : y = b / 2 ^ k) (h : Nat.beq (Nat.land y 1) 0 = false) : Nat.xor p x = Fld.pK a b (k + 1) := by
  rw [Fld.pK_succ, ← hy, h, ← hp, ← hx]; rfl
theorem p_no {a b k p y : Nat} (hp : p = Fld.pK a b k) (hy : y = b / 2 ^ k) (h : Nat.beq (Nat.land y 1) 0 = true) : p = Fld.pK a b (k + 1) := by
  rw [Fld.pK_succ, ← hy, h, ← hp]; rfl
theorem r_yes {p q j m c : Nat} (hq : q = Fld.rK p j) (hm : m = 2 ^ (14 - j)) (hc : c = 285 * 2 ^ (6 - j)) (h : Nat.beq (Nat.land q m) 0 = false) : Nat.xor q c = Fld.rK p (j + 1) := by
  rw [Fld.rK_succ]; unfold Fld.red; rw [← hq, ← hm, h, ← hc]; rfl
theorem r_no {p q j m : Nat} (hq : q = Fld.rK p j) (hm : m = 2 ^ (14 - j)) (h : Nat.beq (Nat.land q m) 0 = true) : q = Fld.rK p (j + 1) := by
  rw [Fld.rK_succ]; unfold Fld.red; rw [← hq, ← hm, h]; rfl

theorem ret_int {k : IntKind} {a b : Int} (h : a = b) : Ending.returned (.int k a) = .returned (.int k b) := by rw [h]
theorem twice {x a k : Nat} (h : x = a * 2 ^ k) : 2 * x = a * 2 ^ (k + 1) := by
  have e : a * (2 ^ k * 2) = a * 2 ^ k * 2 := (Nat.mul_assoc _ _ _).symm
  rw [h, Nat.pow_succ, e]
  omega
set_option maxRecDepth 100000 in
set_option maxHeartbeats 400000 in
theorem gf_any (a b : Nat) (ha : a < 256) (hb : b < 256) (w : World) :
    Calls Try.prog 6 #[.int .u8 a, .int .u8 b] w fun e w' => e = .returned (.int .u8 (Fld.mulM a b)) ∧ w' = w := by
  go_enter Try.func6, Try.ntmps6
  go_wp2
  go_loop [5, 6, 7, 8] (fun p x y i => ∃ k pn xn yn : Nat, k ≤ 8 ∧ i = .int .i64 k ∧ p = .int .u64 pn ∧ x = .int .u64 xn ∧ y = .int .u64 yn ∧ pn < 65536 ∧ xn ≤ 255 * 2 ^ k ∧ yn < 256 ∧ pn = Fld.pK a b k ∧ xn = a * 2 ^ k ∧ yn = b / 2 ^ k)
    (fun _ _ _ i => 8 - (intOf i).toNat)
  case atStart => exact ⟨0, 0, a, b, Nat.zero_le _, rfl, rfl, rfl, rfl, by omega, by omega, hb, rfl, by simp, by simp⟩
  case round =>
    obtain ⟨k, p, x, y, hk, rfl, rfl, rfl, rfl, hp, hx0, hy, ep, ex, ey⟩ := hrel
    have EP : Hid (p = Fld.pK a b k) := ep
    have EX : Hid (x = a * 2 ^ k) := ex
    have EY : Hid (y = b / 2 ^ k) := ey
    have HX : Hid (x ≤ 255 * 2 ^ k) := hx0
    clear ep ex ey hx0
    by_cases hlt : k < 8
    · have hx : x ≤ 32640 := by
        have h1 : 2 ^ k ≤ 2 ^ 7 := Nat.pow_le_pow_right (by decide) (by omega)
        have h2 := HX.out
        have h3 : 255 * 2 ^ k ≤ 255 * 2 ^ 7 := Nat.mul_le_mul_left _ h1
        have h4 : 255 * 2 ^ 7 = 32640 := by decide
        omega
      go_wp2
      all_goals
        have e1 : 2 * x = a * 2 ^ (k + 1) := twice EX.out
        have e2 : y / 2 = b / 2 ^ (k + 1) := by rw [EY.out, Nat.pow_succ, Nat.div_div_eq_div_mul]
        have e3 : 2 * x ≤ 255 * 2 ^ (k + 1) := by have := HX.out; rw [Nat.pow_succ]; omega
      · have ht : (bits BinOp.and IntKind.u64 (y : Int) ((1 : Nat) : Int) != 0) = true := by assumption
        have hb1 := bit_yes (by omega) (by omega) ht
        go_round
        case rel => exact ⟨k + 1, Nat.xor p x, 2 * x, y / 2, by omega, by go_num, by rw [xor_nat hp (by omega)], by go_num, by go_num, xor_lt hp (by omega), e3, by omega, p_yes EP.out EX.out EY.out hb1, e1, e2⟩
        case measure => simp [intOf]; omega
      · have ht : (bits BinOp.and IntKind.u64 (y : Int) ((1 : Nat) : Int) != 0) = false := by assumption
        have hb1 := bit_no (by omega) (by omega) ht
        go_round
        case rel => exact ⟨k + 1, p, 2 * x, y / 2, by omega, by go_num, rfl, by go_num, by go_num, hp, e3, by omega, p_no EP.out EY.out hb1, e1, e2⟩
        case measure => simp [intOf]; omega
    · obtain rfl : k = 8 := by omega
      go_wp2
      go_loop [5, 9] (fun q i => ∃ j qn : Nat, j ≤ 7 ∧ i = .int .i64 (14 - (j : Int)) ∧ q = .int .u64 qn ∧ qn < 65536 ∧ qn = Fld.rK p j)
        (fun _ i => (intOf i).toNat - 7)
      case atStart => exact ⟨0, p, Nat.zero_le _, rfl, rfl, hp, rfl⟩
      case round =>
        obtain ⟨j, q, hj, rfl, rfl, hq, eq⟩ := hrel
        have EQ : Hid (q = Fld.rK p j) := eq
        clear eq
        by_cases hlt : j < 7
        · rcases (by omega : j = 0 ∨ j = 1 ∨ j = 2 ∨ j = 3 ∨ j = 4 ∨ j = 5 ∨ j = 6) with rfl | rfl | rfl | rfl | rfl | rfl | rfl
          · go_wp2
            · have ht : (bits BinOp.and IntKind.u64 (q : Int) ((16384 : Nat) : Int) != 0) = true := by assumption
              have hb1 := bit_yes (by omega) (by omega) ht
              go_round
              case rel => exact ⟨1, Nat.xor q 18240, by omega, rfl, by rw [← xor_nat (x := 18240) hq (by omega)]; rfl, xor_lt hq (by omega), r_yes EQ.out rfl rfl hb1⟩
              case measure => simp [intOf]
            · have ht : (bits BinOp.and IntKind.u64 (q : Int) ((16384 : Nat) : Int) != 0) = false := by assumption
              have hb1 := bit_no (by omega) (by omega) ht
              go_round
              case rel => exact ⟨1, q, by omega, rfl, rfl, hq, r_no EQ.out rfl hb1⟩
              case measure => simp [intOf]
          · go_wp2
            · have ht : (bits BinOp.and IntKind.u64 (q : Int) ((8192 : Nat) : Int) != 0) = true := by assumption
              have hb1 := bit_yes (by omega) (by omega) ht
              go_round
              case rel => exact ⟨2, Nat.xor q 9120, by omega, rfl, by rw [← xor_nat (x := 9120) hq (by omega)]; rfl, xor_lt hq (by omega), r_yes EQ.out rfl rfl hb1⟩
              case measure => simp [intOf]
            · have ht : (bits BinOp.and IntKind.u64 (q : Int) ((8192 : Nat) : Int) != 0) = false := by assumption
              have hb1 := bit_no (by omega) (by omega) ht
              go_round
              case rel => exact ⟨2, q, by omega, rfl, rfl, hq, r_no EQ.out rfl hb1⟩
              case measure => simp [intOf]
          · go_wp2
            · have ht : (bits BinOp.and IntKind.u64 (q : Int) ((4096 : Nat) : Int) != 0) = true := by assumption
              have hb1 := bit_yes (by omega) (by omega) ht
              go_round
              case rel => exact ⟨3, Nat.xor q 4560, by omega, rfl, by rw [← xor_nat (x := 4560) hq (by omega)]; rfl, xor_lt hq (by omega), r_yes EQ.out rfl rfl hb1⟩
              case measure => simp [intOf]
            · have ht : (bits BinOp.and IntKind.u64 (q : Int) ((4096 : Nat) : Int) != 0) = false := by assumption
              have hb1 := bit_no (by omega) (by omega) ht
              go_round
              case rel => exact ⟨3, q, by omega, rfl, rfl, hq, r_no EQ.out rfl hb1⟩
              case measure => simp [intOf]
          · go_wp2
            · have ht : (bits BinOp.and IntKind.u64 (q : Int) ((2048 : Nat) : Int) != 0) = true := by assumption
              have hb1 := bit_yes (by omega) (by omega) ht
              go_round
              case rel => exact ⟨4, Nat.xor q 2280, by omega, rfl, by rw [← xor_nat (x := 2280) hq (by omega)]; rfl, xor_lt hq (by omega), r_yes EQ.out rfl rfl hb1⟩
              case measure => simp [intOf]
            · have ht : (bits BinOp.and IntKind.u64 (q : Int) ((2048 : Nat) : Int) != 0) = false := by assumption
              have hb1 := bit_no (by omega) (by omega) ht
              go_round
              case rel => exact ⟨4, q, by omega, rfl, rfl, hq, r_no EQ.out rfl hb1⟩
              case measure => simp [intOf]
          · go_wp2
            · have ht : (bits BinOp.and IntKind.u64 (q : Int) ((1024 : Nat) : Int) != 0) = true := by assumption
              have hb1 := bit_yes (by omega) (by omega) ht
              go_round
              case rel => exact ⟨5, Nat.xor q 1140, by omega, rfl, by rw [← xor_nat (x := 1140) hq (by omega)]; rfl, xor_lt hq (by omega), r_yes EQ.out rfl rfl hb1⟩
              case measure => simp [intOf]
            · have ht : (bits BinOp.and IntKind.u64 (q : Int) ((1024 : Nat) : Int) != 0) = false := by assumption
              have hb1 := bit_no (by omega) (by omega) ht
              go_round
              case rel => exact ⟨5, q, by omega, rfl, rfl, hq, r_no EQ.out rfl hb1⟩
              case measure => simp [intOf]
          · go_wp2
            · have ht : (bits BinOp.and IntKind.u64 (q : Int) ((512 : Nat) : Int) != 0) = true := by assumption
              have hb1 := bit_yes (by omega) (by omega) ht
              go_round
              case rel => exact ⟨6, Nat.xor q 570, by omega, rfl, by rw [← xor_nat (x := 570) hq (by omega)]; rfl, xor_lt hq (by omega), r_yes EQ.out rfl rfl hb1⟩
              case measure => simp [intOf]
            · have ht : (bits BinOp.and IntKind.u64 (q : Int) ((512 : Nat) : Int) != 0) = false := by assumption
              have hb1 := bit_no (by omega) (by omega) ht
              go_round
              case rel => exact ⟨6, q, by omega, rfl, rfl, hq, r_no EQ.out rfl hb1⟩
              case measure => simp [intOf]
          · go_wp2
            · have ht : (bits BinOp.and IntKind.u64 (q : Int) ((256 : Nat) : Int) != 0) = true := by assumption
              have hb1 := bit_yes (by omega) (by omega) ht
              go_round
              case rel => exact ⟨7, Nat.xor q 285, by omega, rfl, by rw [← xor_nat (x := 285) hq (by omega)]; rfl, xor_lt hq (by omega), r_yes EQ.out rfl rfl hb1⟩
              case measure => simp [intOf]
            · have ht : (bits BinOp.and IntKind.u64 (q : Int) ((256 : Nat) : Int) != 0) = false := by assumption
              have hb1 := bit_no (by omega) (by omega) ht
              go_round
              case rel => exact ⟨7, q, by omega, rfl, rfl, hq, r_no EQ.out rfl hb1⟩
              case measure => simp [intOf]
        · obtain rfl : j = 7 := by omega
          have em : q = Fld.mulM a b := by rw [EQ.out, EP.out]; rfl
          have h256 : q < 256 := by rw [em]; exact Fld.mulM_lt a b ha hb
          have EM : Hid (q = Fld.mulM a b) := em
          clear em
          go_wp2
          go_ret
          exact ⟨ret_int (congrArg Int.ofNat EM.out), rfl⟩
end Go.Proofs.Qxb6623484a
