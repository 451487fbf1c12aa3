import Derived.Test.Qxb6623484aField
import Derived.WalkKit
import Derived.WalkSpells
import Derived.WalkLawsBesides
import Derived.Deep.WholeRow
import Derived.Deep.MidRow
import Derived.Deep.RegionHeld3
import Derived.Laws.CopyOwn
namespace Go.Proofs.Qxb6623484a
open Go.RowKit
section
variable {P : Program}
/-- A whole array into a block, at 'Oper.wp'. -/
theorem wp_store_whole {op : Oper} {a : Act} {w : World} {K : Act → World → Prop} {Q : Exit → Act → World → Prop} (ty : TypeId) (x y : Operand) (ho : op.op = .store ty x y)
    (g : Nat) (c c' : Array Value) (hx : a.eval x = .pointer (some ⟨g, 0, none⟩)) (hy : a.eval y = .agg c') (hg : w.heap[g]? = some (.cells c ty (0, 0)))
    (hi : (P.info? ty).map (·.size) = some c'.size) (hs : c.size = c'.size) (h1 : c'.all (·.oneCell') = true)
    (h : K (a.put op.dst undef) (w.setRow g c')) : op.wp P a w K Q := by
  unfold Oper.wp execOp
  simp only [ho, hx, hy, Instr.storeAt, Instr.sureAddr, Sem.run_bind, Sem.run_pure, Result.andThen_ok, run_storeVar_row w g ty ty c c' hg hi hs h1]
  exact h
theorem wpList_store_whole {ops : Array Oper} {rest : List Oper} {op : Oper} {a : Act} {w : World} {Q : Exit → Act → World → Prop} (hgd : op.guard = none) (ty : TypeId) (x y : Operand) (ho : op.op = .store ty x y)
    (g : Nat) (c c' : Array Value) (hx : a.eval x = .pointer (some ⟨g, 0, none⟩)) (hy : a.eval y = .agg c') (hg : w.heap[g]? = some (.cells c ty (0, 0)))
    (hi : (P.info? ty).map (·.size) = some c'.size) (hs : c.size = c'.size) (h1 : c'.all (·.oneCell') = true)
    (h : wpList P ops Q rest (a.put op.dst undef) (w.setRow g c')) : wpList P ops Q (op :: rest) a w :=
  wpList_plain hgd fun _ hK => wp_store_whole ty x y ho g c c' hx hy hg hi hs h1 (hK _ _ h)
/-- A whole array out of a block, in every world that meets S. -/
theorem yieldsIf_load_whole {ops : Array Oper} {S : World → Prop} {op : Oper} {a : Act} (hw : Region.wanted op (yielded ops a.tmps) = true) (ty : TypeId) (x : Operand) (ho : op.op = .load ty x)
    (g : Nat) (hx : a.eval x = .pointer (some ⟨g, 0, none⟩)) (t : TypeId) (cs : Array Value) (fr : Nat × Nat) (d : TypeDesc) (hS : ∀ w, S w → w.heap[g]? = some (.cells cs t fr))
    (hu : P.underlying ty = some d) (hd : (match d with | .struct _ | .array _ _ => true | _ => false) = true) (hi : (P.info? ty).map (·.size) = some cs.size) : YieldsIf P ops S op (.agg cs) a :=
  .inl ⟨hw, fun w hw' => by
    unfold execOp
    simp only [ho, hx, Instr.loadAt, Instr.sureAddr, Sem.run_bind, Sem.run_pure, Result.andThen_ok, run_loadVar_row w g t ty cs fr d (hS w hw') hu hd hi]⟩
/-- Two results that lie in memory, each a whole row. -/
theorem results_two_rows {fn : Func} {p q : Tmp} {ty ty' : TypeId} (h : fn.results = #[.cell p ty, .cell q ty']) (tmps : Array Value) (w : World) (g g' : Nat) (t t' : TypeId) (cs cs' : Array Value) (fr fr' : Nat × Nat) (d d' : TypeDesc)
    (hp : tmps.getD p undef = .pointer (some ⟨g, 0, none⟩)) (hq : tmps.getD q undef = .pointer (some ⟨g', 0, none⟩)) (hg : w.heap[g]? = some (.cells cs t fr)) (hg' : w.heap[g']? = some (.cells cs' t' fr'))
    (hu : P.underlying ty = some d) (hu' : P.underlying ty' = some d') (hd : (match d with | .struct _ | .array _ _ => true | _ => false) = true) (hd' : (match d' with | .struct _ | .array _ _ => true | _ => false) = true)
    (hi : (P.info? ty).map (·.size) = some cs.size) (hi' : (P.info? ty').map (·.size) = some cs'.size) :
    (results fn tmps).run P w = .ok (.tuple #[.agg cs, .agg cs']) w := by
  have hp' : tmps[p]?.getD undef = .pointer (some ⟨g, 0, none⟩) := by simpa using hp
  have hq' : tmps[q]?.getD undef = .pointer (some ⟨g', 0, none⟩) := by simpa using hq
  simp [results, h, hp', hq', asAddr, run_loadVar_row w g t ty cs fr d hg hu hd hi, run_loadVar_row w g' t' ty' cs' fr' d' hg' hu' hd' hi']
end

def eA (k : Nat) : Array Value := ((List.range 510).map fun j => Value.int .u8 (Fld.eN k j)).toArray
def lA (k : Nat) : Array Value := ((List.range 256).map fun j => Value.int .u8 (Fld.lN k j)).toArray
theorem info22 : (Try.prog.info? 22).map (fun i => (i.zero, i.size)) = some (some (.agg (eA 0)), 510) := by kernel_rfl
theorem info23 : (Try.prog.info? 23).map (fun i => (i.zero, i.size)) = some (some (.agg (lA 0)), 256) := by kernel_rfl
theorem eA_size (k : Nat) : (eA k).size = 510 := by simp [eA]
theorem lA_size (k : Nat) : (lA k).size = 256 := by simp [lA]
theorem eA_at (k j : Nat) (h : j < 510) : (eA k)[j]? = some (.int .u8 (Fld.eN k j)) := by simp [eA, h]
theorem lA_at (k j : Nat) (h : j < 256) : (lA k)[j]? = some (.int .u8 (Fld.lN k j)) := by simp [lA, h]
theorem eA_one (k : Nat) : (eA k).all (·.oneCell') = true := by
  rw [Array.all_eq_true_iff_forall_mem]
  intro x hx
  obtain ⟨j, _, rfl⟩ : ∃ j, j < 510 ∧ Value.int .u8 (Fld.eN k j) = x := by simpa [eA] using hx
  rfl
theorem lA_one (k : Nat) : (lA k).all (·.oneCell') = true := by
  rw [Array.all_eq_true_iff_forall_mem]
  intro x hx
  obtain ⟨j, _, rfl⟩ : ∃ j, j < 256 ∧ Value.int .u8 (Fld.lN k j) = x := by simpa [lA] using hx
  rfl
theorem eA_succ (k : Nat) (hk : k < 255) : ((eA k).setIfInBounds k (.int .u8 (Fld.X k))).setIfInBounds (k + 255) (.int .u8 (Fld.X k)) = eA (k + 1) := by
  apply Array.ext_getElem?
  intro j
  by_cases hj : j < 510
  · rw [eA_at _ j hj, Fld.eN_succ k j hk, Array.getElem?_setIfInBounds, Array.getElem?_setIfInBounds, eA_at _ j hj]
    simp only [Array.size_setIfInBounds, eA_size]
    by_cases h1 : j = k + 255
    · subst h1
      simp [hj]
    · by_cases h2 : j = k
      · subst h2
        simp [hj]
      · rw [if_neg (fun e => h1 e.symm), if_neg (fun e => h2 e.symm), if_neg h1, if_neg h2]
  · rw [Array.getElem?_eq_none (by simp [eA_size]; omega), Array.getElem?_eq_none (by simp [eA_size]; omega)]
theorem lA_succ (k : Nat) : (lA k).setIfInBounds (Fld.X k) (.int .u8 k) = lA (k + 1) := by
  apply Array.ext_getElem?
  intro j
  by_cases hj : j < 256
  · rw [lA_at _ j hj, Array.getElem?_setIfInBounds, lA_at _ j hj]
    show _ = some (Value.int .u8 ((if j = Fld.X k then k else Fld.lN k j : Nat) : Int))
    simp only [lA_size]
    by_cases h1 : j = Fld.X k
    · subst h1
      simp [Fld.X_lt]
    · rw [if_neg (fun e => h1 e.symm), if_neg h1]
  · rw [Array.getElem?_eq_none (by simp [lA_size]; omega), Array.getElem?_eq_none (by simp [lA_size]; omega)]

/-- The two tables behind k rounds, whole, in blocks b and c. -/
structure Tabs (b c k : Nat) (w : World) : Prop where
  e : w.heap[b]? = some (.cells (eA k) 22 (0, 0))
  l : w.heap[c]? = some (.cells (lA k) 23 (0, 0))
theorem Tabs.step {b c k : Nat} {w : World} (h : Tabs b c k w) (hbc : b ≠ c) (hk : k < 255) :
    Tabs b c (k + 1) (((w.setCell ⟨b, k, none⟩ (.int .u8 (Fld.X k))).setCell ⟨b, k + 255, none⟩ (.int .u8 (Fld.X k))).setCell ⟨c, Fld.X k, none⟩ (.int .u8 k)) := by
  constructor
  · rw [heap_setCell_other _ _ _ _ hbc, heap_setCell_same _ _ _ _ _ _ (heap_setCell_same _ _ _ _ _ _ h.e), eA_succ k hk]
  · rw [heap_setCell_same _ _ _ (lA k) 23 _ (by rw [heap_setCell_other _ _ _ _ hbc.symm, heap_setCell_other _ _ _ _ hbc.symm]; exact h.l), lA_succ k]
theorem Tabs.ecell {b c k : Nat} {w : World} (h : Tabs b c k w) {j : Nat} (hj : j < 510) : w.cell? ⟨b, j, none⟩ = some (.int .u8 (Fld.eN k j)) := by
  rw [cell_of_row w b j _ 22 (0, 0) h.e, eA_at k j hj]
theorem Tabs.lcell {b c k : Nat} {w : World} (h : Tabs b c k w) {j : Nat} (hj : j < 256) : w.cell? ⟨c, j, none⟩ = some (.int .u8 (Fld.lN k j)) := by
  rw [cell_of_row w c j _ 23 (0, 0) h.l, lA_at k j hj]
theorem Tabs.efree {b c k : Nat} {w : World} (h : Tabs b c k w) (j : Nat) : w.frozen? ⟨b, j, none⟩ = false := frozen_of_row w b j _ 22 h.e
theorem Tabs.lfree {b c k : Nat} {w : World} (h : Tabs b c k w) (j : Nat) : w.frozen? ⟨c, j, none⟩ = false := frozen_of_row w c j _ 23 h.l

theorem Tabs.erange {b c k : Nat} {w : World} (h : Tabs b c k w) : w.rangeAt b 0 (eA k).toList := fun j v hv => by
  rw [cell_of_row w b (0 + j) _ 22 (0, 0) h.e]
  simpa using hv
theorem Tabs.lrange {b c k : Nat} {w : World} (h : Tabs b c k w) : w.rangeAt c 0 (lA k).toList := fun j v hv => by
  rw [cell_of_row w c (0 + j) _ 23 (0, 0) h.l]
  simpa using hv
theorem Tabs.ethere {b c k : Nat} {w : World} (h : Tabs b c k w) : w.there b 0 510 := fun j hj => by
  rw [Nat.zero_add, h.ecell hj]
  exact ⟨rfl, h.efree j⟩
theorem Tabs.lthere {b c k : Nat} {w : World} (h : Tabs b c k w) : w.there c 0 256 := fun j hj => by
  rw [Nat.zero_add, h.lcell hj]
  exact ⟨rfl, h.lfree j⟩
theorem Tabs.setE {b c k : Nat} {w : World} (h : Tabs b c k w) (hbc : b ≠ c) : Tabs b c k (w.setRow b (eA k)) :=
  ⟨setRow_heap w b _ _ 22 _ h.e, (setRow_other w b c _ hbc.symm).trans h.l⟩
theorem Tabs.setL {b c k : Nat} {w : World} (h : Tabs b c k w) (hbc : b ≠ c) : Tabs b c k (w.setRow c (lA k)) :=
  ⟨(setRow_other w c b _ hbc).trans h.e, setRow_heap w c _ _ 23 _ h.l⟩
theorem X_odd (k : Nat) (h : ¬ Fld.X k * 2 &&& 256 = 0) : (Fld.X k * 2 ^^^ 285 : Nat) = Fld.X (k + 1) := by
  show _ = Fld.stepN (Fld.X k)
  unfold Fld.stepN
  have hb : Nat.beq (Nat.land (Fld.X k * 2) 256) 0 = false := by
    cases hq : Nat.beq (Nat.land (Fld.X k * 2) 256) 0
    · rfl
    · exact absurd (Nat.eq_of_beq_eq_true hq) h
  rw [hb]
  rfl
theorem X_even (k : Nat) (h : Fld.X k * 2 &&& 256 = 0) : Fld.X (k + 1) = Fld.X k * 2 := by
  show Fld.stepN (Fld.X k) = _
  unfold Fld.stepN
  have hb : Nat.beq (Nat.land (Fld.X k * 2) 256) 0 = true := by
    show Nat.beq (Fld.X k * 2 &&& 256) 0 = true
    rw [h]; rfl
  rw [hb]
  rfl

/-- The step of the power, as the walk writes it. -/
theorem and256 (x : Nat) (h : x < 256) : bits .and .i64 ((x : Int) * 2) 256 = ((x * 2 &&& 256 : Nat) : Int) := by
  have := (bits_nat .i64 62 (by decide) (fun n h0 h1 => by rw [IntKind.wrap_i64]; omega) (x * 2) 256 (by omega) (by decide)).1
  simpa using this
theorem xor285 (x : Nat) (h : x < 256) : bits .xor .i64 ((x : Int) * 2) 285 = ((x * 2 ^^^ 285 : Nat) : Int) := by
  have hx : x * 2 ^^^ 285 < 2 ^ 62 := Nat.xor_lt_two_pow (by omega) (by decide)
  have h1 : (BitVec.ofInt 64 ((x : Int) * 2)).toNat = x * 2 := by
    have e : ((x : Int) * 2) = ((x * 2 : Nat) : Int) := by omega
    rw [e, BitVec.ofInt_natCast, BitVec.toNat_ofNat]; exact Nat.mod_eq_of_lt (by omega)
  show IntKind.i64.wrap ((BitVec.ofInt 64 ((x : Int) * 2) ^^^ BitVec.ofInt 64 285).toNat : Int) = _
  rw [BitVec.toNat_xor, h1, IntKind.wrap_i64]
  have h2 : (BitVec.ofInt 64 285).toNat = 285 := by decide
  rw [h2]
  omega

set_option maxRecDepth 100000 in
set_option maxHeartbeats 400000 in
theorem tables_any (w : World) :
    Calls Try.prog 7 #[] w fun e w' => e = .returned (.tuple #[.agg (eA 255), .agg (lA 255)]) ∧ Below w.heap.size w w' := by
  have z22 := (zero_of_info info22).1
  have z23 := (zero_of_info info23).1
  go_enter Try.func7, Try.ntmps7
  go_wp2
  go_loopw [2, 4] (fun x i wr => ∃ k : Nat, k ≤ 255 ∧ i = .int .i64 k ∧ x = .int .i64 (Fld.X k) ∧ Tabs w.heap.size (w.heap.size + 1) k wr ∧ Below w.heap.size w wr)
    (fun _ i _ => 255 - (intOf i).toNat)
  case atStart => exact ⟨0, Nat.zero_le _, rfl, rfl, ⟨heap_alloc2_old _ _ _, heap_alloc2_new _ _ _⟩, ((Below.refl _ _).alloc (Nat.le_refl _) _).alloc (by simp) _⟩
  case round =>
    obtain ⟨k, hk, rfl, rfl, ht, hb⟩ := hrel
    have hx := Fld.X_lt k
    by_cases hlt : k < 255
    · have c1 := ht.ecell (j := k) (by omega)
      have c2 := ht.ecell (j := k + 255) (by omega)
      have c3 := ht.lcell (j := Fld.X k) hx
      have f1 := ht.efree k
      have f2 := ht.efree (k + 255)
      have f3 := ht.lfree (Fld.X k)
      go_wp2
      all_goals
        have hstep : bits BinOp.and IntKind.i64 (↑(Fld.X k) * 2) 256 = ((Fld.X k * 2 &&& 256 : Nat) : Int) := and256 _ hx
      · have hne : (bits BinOp.and IntKind.i64 (↑(Fld.X k) * 2) 256 != 0) = true := by assumption
        go_roundw
        case rel => exact ⟨k + 1, by omega, by go_num, by rw [xor285 _ hx, X_odd k (by rw [hstep] at hne; simpa using hne)], ht.step (by omega) hlt, ((hb.setCell (Nat.le_refl _) _).setCell (Nat.le_refl _) _).setCell (by simp) _⟩
        case measure => simp [intOf]; omega
      · have hne : (bits BinOp.and IntKind.i64 (↑(Fld.X k) * 2) 256 != 0) = false := by assumption
        go_roundw
        case rel => exact ⟨k + 1, by omega, by go_num, by rw [X_even k (by rw [hstep] at hne; simpa using hne)]; simp, ht.step (by omega) hlt, ((hb.setCell (Nat.le_refl _) _).setCell (Nat.le_refl _) _).setCell (by simp) _⟩
        case measure => simp [intOf]; omega
    · obtain rfl : k = 255 := by omega
      have hi22 : (Try.prog.info? 22).map (·.size) = some (eA 255).size := by rw [eA_size]; exact (zero_of_info info22).2
      have hi23 : (Try.prog.info? 23).map (·.size) = some (lA 255).size := by rw [lA_size]; exact (zero_of_info info23).2
      have HI22 : Hid ((Try.prog.info? 22).map (·.size) = some (eA 255).size) := hi22
      have HI23 : Hid ((Try.prog.info? 23).map (·.size) = some (lA 255).size) := hi23
      clear hi22 hi23 z22 z23
      go_wp2
      refine wp_region_noPanic ?_
      refine wp_region_held_drew (S := fun w' => Tabs w.heap.size (w.heap.size + 1) 255 w' ∧ Below w.heap.size w w') (by kernel_rfl) ⟨⟨ht.e, ht.l⟩, hb.drew⟩ (fun hHeld => ?_)
      refine wpAnyH_take (i := 0) (oi := { dst := some 28, op := Op.load 22 (Operand.tmp 0), type := 22, pos := _, after := _, guard := none }) (v := .agg (eA 255)) rfl (by kernel_rfl) (by kernel_rfl) (by kernel_rfl) (fun _ _ _ h => h) (yieldsIf_load_whole (by rfl) 22 (.tmp 0) rfl w.heap.size rfl 22 (eA 255) (0, 0) _ (fun w h => h.1.e) Try.underlying22 rfl HI22.out) hHeld ?_
      simp only [Act.put, List.setIfInBounds_toArray, List.set_cons_zero, List.set_cons_succ]
      refine wpAnyH_take (i := 1) (oi := { dst := some 29, op := Op.load 23 (Operand.tmp 1), type := 23, pos := _, after := _, guard := none }) (v := .agg (lA 255)) rfl (by kernel_rfl) (by kernel_rfl) (by kernel_rfl) (fun _ _ _ h => h) (yieldsIf_load_whole (by rfl) 23 (.tmp 1) rfl (w.heap.size + 1) rfl 23 (lA 255) (0, 0) _ (fun w h => h.1.l) Try.underlying23 rfl HI23.out) hHeld ?_
      simp only [Act.put, List.setIfInBounds_toArray, List.set_cons_zero, List.set_cons_succ]
      refine wpAnyH_ready (rs := [2]) (by kernel_rfl) (by simp) ?_
      refine AllReadyH.cons rfl (fun K hK => ?_) AllReadyH.nil
      rw [if_pos (by rfl)]
      refine wp_store_whole 22 (.tmp 0) (.tmp 28) rfl w.heap.size (eA 255) (eA 255) rfl rfl hHeld.1.e HI22.out rfl (eA_one 255) ?_
      refine hK.out _ _ ⟨hHeld.1.setE (by omega), below_setRow hHeld.2 (Nat.le_refl _) _⟩ (fun hHeld => ?_)
      simp only [Act.put]
      refine wpAnyH_ready (rs := [3]) (by kernel_rfl) (by simp) ?_
      refine AllReadyH.cons rfl (fun K hK => ?_) AllReadyH.nil
      rw [if_pos (by rfl)]
      refine wp_store_whole 23 (.tmp 1) (.tmp 29) rfl (w.heap.size + 1) (lA 255) (lA 255) rfl rfl hHeld.1.l HI23.out rfl (lA_one 255) ?_
      refine hK.out _ _ ⟨hHeld.1.setL (by omega), below_setRow hHeld.2 (by omega) _⟩ (fun hHeld => ?_)
      simp only [Act.put]
      refine wpAnyH_done (by kernel_rfl) ?_ _
      refine NoPanic.normal ?_
      go_wp2
      refine bodyPost_ret (v := .tuple #[.agg (eA 255), .agg (lA 255)]) ?_ rfl ⟨rfl, hHeld.2⟩
      exact results_two_rows rfl _ _ w.heap.size (w.heap.size + 1) 22 23 (eA 255) (lA 255) (0, 0) (0, 0) _ _ rfl rfl hHeld.1.e hHeld.1.l Try.underlying22 Try.underlying23 rfl rfl HI22.out HI23.out
end Go.Proofs.Qxb6623484a
