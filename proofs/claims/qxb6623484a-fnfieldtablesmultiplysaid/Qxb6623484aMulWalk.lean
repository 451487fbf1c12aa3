/-
  FnFieldTablesMultiply (3): the walk.
-/
import Derived.Test.Qxb6623484aInvWalk
namespace Go.Proofs.Qxb6623484a
open Go.RowKit

/-- What the law reads of two nonzero bytes. -/
theorem Tabs.byAB {b c : Nat} {w : World} (h : Tabs b c 255 w) (x y : Nat) (hx : x < 256) (hy : y < 256) (x0 : x ≠ 0) (y0 : y ≠ 0) :
    ∃ la lb m : Nat, la < 255 ∧ lb < 255 ∧ m = Fld.mulM x y ∧ w.cell? ⟨c, x, none⟩ = some (.int .u8 la) ∧ w.cell? ⟨c, y, none⟩ = some (.int .u8 lb) ∧ w.cell? ⟨b, la + lb, none⟩ = some (.int .u8 m) := by
  have h1 := (Fld.X_lg x hx x0).1
  have h2 := (Fld.X_lg y hy y0).1
  exact ⟨Fld.lg x, Fld.lg y, _, h1, h2, rfl, h.log x hx x0, h.log y hy y0, by rw [h.exp _ (by omega), Fld.mulM_lg x y hx hy x0 y0]⟩

theorem ret_true {a : Bool} (h : a = true) : Ending.returned (.bool a) = .returned (.bool true) := by rw [h]

set_option maxRecDepth 100000 in
set_option maxHeartbeats 400000 in
theorem mult_ab (a b : Nat) (ha : a < 256) (hb : b < 256) (a0 : 0 < a) (b0 : 0 < b) (w : World) :
    Calls Try.prog 3 #[.int .u8 a, .int .u8 b] w fun e w' => e = .returned (.bool true) ∧ Below w.heap.size w w' := by
  have z22 := (zero_of_info info22).1
  have z23 := (zero_of_info info23).1
  go_enter Try.func3, Try.ntmps3
  go_wp2_with fail
  refine (zz_any _).mono ?_
  rintro e w2 ⟨rfl, hb⟩
  have HB : Hid (Below w.heap.size w w2) := hb
  clear hb
  go_upto_region 2 with (first
    | (refine wpList_store_first (.tmp 5) (.tmp 10) w2 rfl rfl ?_)
    | (refine wpList_store_second (.tmp 6) (.tmp 11) w w2 HB.out rfl rfl ?_; intro w3 hT hB3))
  obtain ⟨la, lb, m, hla, hlb, hm, c1, c2, c3⟩ := hT.byAB a b ha hb (by omega) (by omega)
  have HM : Hid (m = Fld.mulM a b) := hm
  clear hm
  have ha0 : ((a : Int) != 0) = true := by simp; omega
  have hb0 : ((b : Int) != 0) = true := by simp; omega
  have HB3 : Hid (Below w.heap.size w w3) := hB3
  clear hB3 hT z22 z23
  go_wp2_with fail
  go_quiet (fail)
  go_wp2_with fail
  refine (gf_any a b ha hb _).mono ?_
  rintro e w4 ⟨rfl, rfl⟩
  rw [← HM.out]
  go_wp2_with fail
  go_ret
  exact ⟨ret_true (by simp), below_drewN HB3.out _⟩

set_option maxRecDepth 100000 in
set_option maxHeartbeats 400000 in
theorem mult_0b (b : Nat) (hb : b < 256) (w : World) :
    Calls Try.prog 3 #[.int .u8 0, .int .u8 b] w fun e w' => e = .returned (.bool true) ∧ Below w.heap.size w w' := by
  have z22 := (zero_of_info info22).1
  have z23 := (zero_of_info info23).1
  go_enter Try.func3, Try.ntmps3
  go_wp2_with fail
  refine (zz_any _).mono ?_
  rintro e w2 ⟨rfl, hb⟩
  have HB : Hid (Below w.heap.size w w2) := hb
  clear hb
  go_upto_region 2 with (first
    | (refine wpList_store_first (.tmp 5) (.tmp 10) w2 rfl rfl ?_)
    | (refine wpList_store_second (.tmp 6) (.tmp 11) w w2 HB.out rfl rfl ?_; intro w3 hT hB3))
  have HB3 : Hid (Below w.heap.size w w3) := hB3
  clear hB3 hT z22 z23
  go_wp2_with fail
  refine (gf_any 0 b (by omega) hb _).mono ?_
  rintro e w4 ⟨rfl, rfl⟩
  rw [Fld.mulM_zero_left b hb]
  go_wp2_with fail
  go_ret
  exact ⟨ret_true (by simp), HB3.out⟩

set_option maxRecDepth 100000 in
set_option maxHeartbeats 400000 in
theorem mult_a0 (a : Nat) (ha : a < 256) (a0 : 0 < a) (w : World) :
    Calls Try.prog 3 #[.int .u8 a, .int .u8 0] w fun e w' => e = .returned (.bool true) ∧ Below w.heap.size w w' := by
  have z22 := (zero_of_info info22).1
  have z23 := (zero_of_info info23).1
  go_enter Try.func3, Try.ntmps3
  go_wp2_with fail
  refine (zz_any _).mono ?_
  rintro e w2 ⟨rfl, hb⟩
  have HB : Hid (Below w.heap.size w w2) := hb
  clear hb
  go_upto_region 2 with (first
    | (refine wpList_store_first (.tmp 5) (.tmp 10) w2 rfl rfl ?_)
    | (refine wpList_store_second (.tmp 6) (.tmp 11) w w2 HB.out rfl rfl ?_; intro w3 hT hB3))
  have HB3 : Hid (Below w.heap.size w w3) := hB3
  clear hB3 hT z22 z23
  go_wp2_with fail
  refine (gf_any a 0 ha (by omega) _).mono ?_
  rintro e w4 ⟨rfl, rfl⟩
  rw [Fld.mulM_zero_right a ha]
  go_wp2_with fail
  go_ret
  exact ⟨ret_true (by simp), HB3.out⟩

theorem mult_any (a b : Nat) (ha : a < 256) (hb : b < 256) (w : World) :
    Calls Try.prog 3 #[.int .u8 a, .int .u8 b] w fun e w' => e = .returned (.bool true) ∧ Below w.heap.size w w' := by
  by_cases h0 : a = 0
  · subst h0; exact mult_0b b hb w
  · by_cases h1 : b = 0
    · subst h1; exact mult_a0 a ha (by omega) w
    · exact mult_ab a b ha hb (by omega) (by omega) w
end Go.Proofs.Qxb6623484a
