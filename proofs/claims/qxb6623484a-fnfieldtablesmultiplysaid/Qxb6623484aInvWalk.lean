/-
  FnFieldTablesInverse (4): the walk.
-/
import Derived.Test.Qxb6623484aCalls
import Derived.Deep.QuietTactic
import Derived.BigQuiet
import Derived.Deep.Cut
namespace Go.Proofs.Qxb6623484a
open Go.RowKit

/-- The second store of 'exp, log := ZZfieldTables()': behind it the world is a letter, of which the two tables and what lies below are known. -/
theorem wpList_store_tabs {ops : Array Oper} {rest : List Oper} {op : Oper} {a : Act} {Q : Exit → Act → World → Prop} (w w2 : World) (hB : Below w.heap.size w w2)
    (hgd : op.guard = none) (x y : Operand) (ho : op.op = .store 23 x y)
    (hx : a.eval x = .pointer (some ⟨w2.heap.size + 1, 0, none⟩)) (hy : a.eval y = .agg (lA 255))
    (h : ∀ w3, Tabs w2.heap.size (w2.heap.size + 1) 255 w3 → Below w.heap.size w w3 → wpList Try.prog ops Q rest (a.put op.dst undef) w3) :
    wpList Try.prog ops Q (op :: rest) a (((w2.alloc (.cells (eA 0) 22)).alloc (.cells (lA 0) 23)).setRow w2.heap.size (eA 255)) := by
  have h1 : ((((w2.alloc (.cells (eA 0) 22)).alloc (.cells (lA 0) 23)).setRow w2.heap.size (eA 255))).heap[w2.heap.size + 1]? = some (.cells (lA 0) 23 (0, 0)) :=
    (setRow_other _ _ _ _ (by omega)).trans (heap_alloc2_new _ _ _)
  refine wpList_store_whole hgd 23 x y ho (w2.heap.size + 1) (lA 0) (lA 255) hx hy h1 (by rw [lA_size]; exact hi23) (by rw [lA_size, lA_size]) (lA_one 255) (h _ ⟨?_, ?_⟩ ?_)
  · exact (setRow_other _ _ _ _ (by omega)).trans (setRow_heap _ _ _ _ _ _ (heap_alloc2_old _ _ _))
  · exact setRow_heap _ _ _ _ _ _ h1
  · have hs := hB.size
    exact below_setRow (below_setRow ((hB.alloc hs _).alloc (by simp; omega) _) hs _) (by omega) _

/-- The first store. -/
theorem wpList_store_first {ops : Array Oper} {rest : List Oper} {pos : String} {after : Array Edge} {a : Act} {Q : Exit → Act → World → Prop} (x y : Operand) (w2 : World)
    (hx : a.eval x = .pointer (some ⟨w2.heap.size, 0, none⟩)) (hy : a.eval y = .agg (eA 255))
    (h : wpList Try.prog ops Q rest a (((w2.alloc (.cells (eA 0) 22)).alloc (.cells (lA 0) 23)).setRow w2.heap.size (eA 255))) :
    wpList Try.prog ops Q ({ dst := none, op := Op.store 22 x y, type := 0, pos := pos, after := after, guard := none } :: rest) a ((w2.alloc (.cells (eA 0) 22)).alloc (.cells (lA 0) 23)) :=
  wpList_store_whole rfl 22 x y rfl w2.heap.size (eA 0) (eA 255) hx hy (heap_alloc2_old _ _ _) (by rw [eA_size]; exact hi22) (by rw [eA_size, eA_size]) (eA_one 255) h
/-- The second. -/
theorem wpList_store_second {ops : Array Oper} {rest : List Oper} {pos : String} {after : Array Edge} {a : Act} {Q : Exit → Act → World → Prop} (x y : Operand) (w w2 : World) (hB : Below w.heap.size w w2)
    (hx : a.eval x = .pointer (some ⟨w2.heap.size + 1, 0, none⟩)) (hy : a.eval y = .agg (lA 255))
    (h : ∀ w3, Tabs w2.heap.size (w2.heap.size + 1) 255 w3 → Below w.heap.size w w3 → wpList Try.prog ops Q rest a w3) :
    wpList Try.prog ops Q ({ dst := none, op := Op.store 23 x y, type := 0, pos := pos, after := after, guard := none } :: rest) a (((w2.alloc (.cells (eA 0) 22)).alloc (.cells (lA 0) 23)).setRow w2.heap.size (eA 255)) :=
  wpList_store_tabs w w2 hB rfl x y rfl hx hy h

theorem Tabs.exp {b c : Nat} {w : World} (h : Tabs b c 255 w) (j : Nat) (hj : j < 510) : w.cell? ⟨b, j, none⟩ = some (.int .u8 (Fld.X j)) := by
  rw [h.ecell hj, Fld.eN_full j hj]
theorem Tabs.log {b c : Nat} {w : World} (h : Tabs b c 255 w) (a : Nat) (ha : a < 256) (h0 : a ≠ 0) : w.cell? ⟨c, a, none⟩ = some (.int .u8 (Fld.lg a)) := by
  rw [h.lcell ha, Fld.lN_full a ha h0]
/-- What the law reads of a nonzero byte. -/
theorem Tabs.byA {b c : Nat} {w : World} (h : Tabs b c 255 w) (a : Nat) (ha : a < 256) (h0 : a ≠ 0) :
    ∃ la : Nat, la < 255 ∧ w.cell? ⟨c, a, none⟩ = some (.int .u8 la) ∧ w.cell? ⟨b, la, none⟩ = some (.int .u8 a) ∧ w.cell? ⟨b, la + 255, none⟩ = some (.int .u8 a) := by
  obtain ⟨h1, h2⟩ := Fld.X_lg a ha h0
  exact ⟨Fld.lg a, h1, h.log a ha h0, by rw [h.exp _ (by omega), h2], by rw [h.exp _ (by omega), Fld.X_add, h2]⟩
/-- What the law reads at a place below 255. -/
theorem Tabs.byI {b c : Nat} {w : World} (h : Tabs b c 255 w) (i : Nat) (hi : i < 255) :
    ∃ x : Nat, x < 256 ∧ w.cell? ⟨b, i, none⟩ = some (.int .u8 x) ∧ w.cell? ⟨c, x, none⟩ = some (.int .u8 i) ∧ w.cell? ⟨b, i + 255, none⟩ = some (.int .u8 x) := by
  refine ⟨Fld.X i, Fld.X_lt i, h.exp i (by omega), ?_, by rw [h.exp _ (by omega), Fld.X_add]⟩
  rw [h.lcell (Fld.X_lt i), Fld.lN_X 255 (Nat.le_refl _) i hi]

set_option maxRecDepth 100000 in
set_option maxHeartbeats 400000 in
theorem inv_a255 (a : Nat) (ha : a < 256) (h0 : 0 < a) (w : World) :
    Calls Try.prog 4 #[.int .u8 a, .int .u8 255] w fun e w' => e = .returned (.bool true) ∧ Below w.heap.size w w' := by
  have z22 := (zero_of_info info22).1
  have z23 := (zero_of_info info23).1
  go_enter Try.func4, Try.ntmps4
  go_wp2_with fail
  refine (zz_any _).mono ?_
  rintro e w2 ⟨rfl, hb⟩
  have HB : Hid (Below w.heap.size w w2) := hb
  clear hb
  go_upto_region 2 with (first
    | (refine wpList_store_first (.tmp 5) (.tmp 11) w2 rfl rfl ?_)
    | (refine wpList_store_second (.tmp 6) (.tmp 12) w w2 HB.out rfl rfl ?_; intro w3 hT hB3))
  obtain ⟨la, hla, c1, c2, c3⟩ := hT.byA a ha (by omega)
  have c4 : w3.cell? ⟨w2.heap.size, 255, none⟩ = some (.int .u8 1) := by rw [hT.exp 255 (by omega), Fld.X_255]; rfl
  have HB3 : Hid (Below w.heap.size w w3) := hB3
  clear hB3 hT z22 z23
  go_wp2
  go_ret
  exact ⟨rfl, HB3.out⟩

set_option maxRecDepth 100000 in
set_option maxHeartbeats 400000 in
theorem inv_0255  (w : World) :
    Calls Try.prog 4 #[.int .u8 0, .int .u8 255] w fun e w' => e = .returned (.bool true) ∧ Below w.heap.size w w' := by
  have z22 := (zero_of_info info22).1
  have z23 := (zero_of_info info23).1
  go_enter Try.func4, Try.ntmps4
  go_wp2_with fail
  refine (zz_any _).mono ?_
  rintro e w2 ⟨rfl, hb⟩
  have HB : Hid (Below w.heap.size w w2) := hb
  clear hb
  go_upto_region 2 with (first
    | (refine wpList_store_first (.tmp 5) (.tmp 11) w2 rfl rfl ?_)
    | (refine wpList_store_second (.tmp 6) (.tmp 12) w w2 HB.out rfl rfl ?_; intro w3 hT hB3))
  have c4 : w3.cell? ⟨w2.heap.size, 255, none⟩ = some (.int .u8 1) := by rw [hT.exp 255 (by omega), Fld.X_255]; rfl
  have HB3 : Hid (Below w.heap.size w w3) := hB3
  clear hB3 hT z22 z23
  go_wp2
  go_ret
  exact ⟨rfl, HB3.out⟩

set_option maxRecDepth 100000 in
set_option maxHeartbeats 400000 in
theorem inv_ai (a i : Nat) (ha : a < 256) (h0 : 0 < a) (hi : i < 255) (w : World) :
    Calls Try.prog 4 #[.int .u8 a, .int .u8 i] w fun e w' => e = .returned (.bool true) ∧ Below w.heap.size w w' := by
  have z22 := (zero_of_info info22).1
  have z23 := (zero_of_info info23).1
  go_enter Try.func4, Try.ntmps4
  go_wp2_with fail
  refine (zz_any _).mono ?_
  rintro e w2 ⟨rfl, hb⟩
  have HB : Hid (Below w.heap.size w w2) := hb
  clear hb
  go_upto_region 2 with (first
    | (refine wpList_store_first (.tmp 5) (.tmp 11) w2 rfl rfl ?_)
    | (refine wpList_store_second (.tmp 6) (.tmp 12) w w2 HB.out rfl rfl ?_; intro w3 hT hB3))
  obtain ⟨la, hla, c1, c2, c3⟩ := hT.byA a ha (by omega)
  obtain ⟨x, hx, d1, d2, d3⟩ := hT.byI i hi
  have hi0 : (i : Int) ≠ 255 := by omega
  have HB3 : Hid (Below w.heap.size w w3) := hB3
  clear hB3 hT z22 z23
  go_wp2
  go_quiet (fail)
  go_wp2
  go_ret
  exact ⟨rfl, below_drewN HB3.out _⟩

set_option maxRecDepth 100000 in
set_option maxHeartbeats 400000 in
theorem inv_0i (i : Nat) (hi : i < 255) (w : World) :
    Calls Try.prog 4 #[.int .u8 0, .int .u8 i] w fun e w' => e = .returned (.bool true) ∧ Below w.heap.size w w' := by
  have z22 := (zero_of_info info22).1
  have z23 := (zero_of_info info23).1
  go_enter Try.func4, Try.ntmps4
  go_wp2_with fail
  refine (zz_any _).mono ?_
  rintro e w2 ⟨rfl, hb⟩
  have HB : Hid (Below w.heap.size w w2) := hb
  clear hb
  go_upto_region 2 with (first
    | (refine wpList_store_first (.tmp 5) (.tmp 11) w2 rfl rfl ?_)
    | (refine wpList_store_second (.tmp 6) (.tmp 12) w w2 HB.out rfl rfl ?_; intro w3 hT hB3))
  obtain ⟨x, hx, d1, d2, d3⟩ := hT.byI i hi
  have hi0 : (i : Int) ≠ 255 := by omega
  have HB3 : Hid (Below w.heap.size w w3) := hB3
  clear hB3 hT z22 z23
  go_wp2
  go_quiet (fail)
  go_wp2
  go_ret
  exact ⟨rfl, below_drewN HB3.out _⟩

theorem inv_any (a i : Nat) (ha : a < 256) (hi : i < 256) (w : World) :
    Calls Try.prog 4 #[.int .u8 a, .int .u8 i] w fun e w' => e = .returned (.bool true) ∧ Below w.heap.size w w' := by
  by_cases h0 : a = 0
  · subst h0
    by_cases h1 : i = 255
    · subst h1; exact inv_0255 w
    · exact inv_0i i (by omega) w
  · by_cases h1 : i = 255
    · subst h1; exact inv_a255 a ha (by omega) w
    · exact inv_ai a i ha (by omega) (by omega) w
end Go.Proofs.Qxb6623484a
