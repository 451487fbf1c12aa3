/-
  A map with string keys that holds just the texts of a list, each with the element that a function says: its look-ups and stores.
-/
import Derived.Test.Qxb6623519aIns
import Derived.Test.Qxb6623519aPlain
import Derived.Maps.OwnSet
import Derived.Maps.AppendAt
namespace Go.Proofs.Qxb6623519a
open Go.RowKit Go.Maps

theorem law9 : Keyed Try.prog 9 := string_keyed Try.underlying9
theorem zero4 (w : World) : (zeroValue 4).run Try.prog w = .ok (.bool false) w := by kernel_rfl
theorem zero9 (w : World) : (zeroValue 9).run Try.prog w = .ok (.string ByteArray.empty) w := by kernel_rfl

/-- The datum D is a map whose keys are the texts of L; the element at s is f s. -/
structure Reads (D : DataW Unit) (f : List UInt8 → DataW Unit) (L : List (List UInt8)) : Prop where
  tidy : Maps.Tidy D
  has : ∀ s, Maps.has D (.string s) = L.contains s
  at_ : ∀ s ∈ L, ∀ z, D.atKey (.string s) z = f s
  size : Maps.size D = L.length

theorem reads_empty (f : List UInt8 → DataW Unit) : Reads (.map []) f [] :=
  ⟨Maps.tidy_empty, fun _ => rfl, fun _ h => (by cases h), rfl⟩

theorem Reads.put {D : DataW Unit} {f : List UInt8 → DataW Unit} {L : List (List UInt8)} (h : Reads D f L) (s : List UInt8) : Reads (D.put (.string s) (f s)) f (Pl.addL L s) := by
  have hk : WideAt.IsKeyLit (.string s) := trivial
  have hne : ∀ u, u ≠ s → (Lit.string u) ≠ (Lit.string s) := fun u hu e => hu (by injection e)
  refine ⟨h.tidy.put hk _, ?_, ?_, ?_⟩
  · intro u
    by_cases e : u = s
    · subst e
      rw [Maps.has_put_same h.tidy.isMap hk]
      have := Pl.self_addL L u
      simpa using this
    · rw [Maps.has_put_other (hne u e), h.has u]
      unfold Pl.addL
      split
      · rfl
      · simp [e]
  · intro u hu z
    by_cases e : u = s
    · subst e
      rw [Maps.atKey_put_same h.tidy.isMap hk]
    · rw [Maps.atKey_put_other (hne u e)]
      refine h.at_ u ?_ z
      unfold Pl.addL at hu
      split at hu
      · exact hu
      · simpa [e] using hu
  · rw [Maps.size_put h.tidy, h.has s]
    unfold Pl.addL
    split
    · exact h.size
    · simp [h.size]

/-- Block b is a map of at most n entries that holds just the texts of L. -/
def MapIs (w : World) (e : TypeId) (f : List UInt8 → DataW Unit) (b n : Nat) (L : List (List UInt8)) : Prop := ∃ D, w.ownsMap Try.prog 9 (plainElem Try.prog e) b n D ∧ Reads D f L

def fB : List UInt8 → DataW Unit := fun _ => .lit (.bool true)
def fS : List UInt8 → DataW Unit := fun s => .lit (.string s)

section
variable {w w' : World} {e : TypeId} {f : List UInt8 → DataW Unit} {b n : Nat} {L : List (List UInt8)}

theorem mapIs_made (w : World) (e : TypeId) (f : List UInt8 → DataW Unit) : MapIs (w.alloc (.map #[] 0)) e f w.heap.size 0 [] :=
  ⟨_, World.ownsMap_made w _ _ _, reads_empty f⟩
theorem MapIs.mono (h : MapIs w e f b n L) {n' : Nat} (hn : n ≤ n') : MapIs w e f b n' L := let ⟨D, h1, h2⟩ := h; ⟨D, h1.mono hn, h2⟩
theorem MapIs.lt (h : MapIs w e f b n L) : b < w.heap.size := let ⟨_, h1, _⟩ := h; h1.lt
theorem MapIs.block (h : MapIs w e f b n L) (hb : w'.heap[b]? = w.heap[b]?) : MapIs w' e f b n L := by
  obtain ⟨D, ⟨es, clock, h0, r⟩, h2⟩ := h
  exact ⟨D, ⟨es, clock, hb.trans h0, r⟩, h2⟩
theorem MapIs.below {B : Nat} (h : MapIs w e f b n L) (hB : Below B w w') (hb : b < B) : MapIs w' e f b n L := h.block (hB.block b hb)
theorem MapIs.kept {row : Option Nat} (h : MapIs w e f b n L) (hg : w.grownBy w' row) (hne : some b ≠ row) : MapIs w' e f b n L := h.block (hg.block b h.lt hne)
theorem MapIs.alloc (h : MapIs w e f b n L) (o : Obj) : MapIs (w.alloc o) e f b n L := h.block (Below.heap_alloc _ _ _ h.lt)
theorem MapIs.setCell (h : MapIs w e f b n L) {a : Addr} (ha : b ≠ a.block) (u : Value) : MapIs (w.setCell a u) e f b n L := h.block (Below.heap_setCell _ _ _ _ ha)
theorem MapIs.drewN (h : MapIs w e f b n L) (m : Nat) : MapIs (w.drewN m) e f b n L := h.block rfl
theorem MapIs.drew (h : MapIs w e f b n L) : MapIs w.drew e f b n L := h.block rfl
theorem MapIs.length_le (h : MapIs w e f b n L) : L.length ≤ n := by
  obtain ⟨D, h1, h2⟩ := h
  rw [← h2.size]
  exact h1.size_le

theorem key9 {s : ByteArray} (hs : s.size ≤ maxLen) : keyOf Try.prog 9 (.string s) = some (.string s.data.toList) := WideMaps.keyOf_string_mk Try.underlying9 hs

theorem plainElem_bool_inv {v : Value} {z : DataW Unit × List MemPlace} (h : plainElem Try.prog 4 v = some z) : ∃ x, v = .bool x ∧ z = (.lit (.bool x), []) := by
  unfold plainElem at h
  rw [Try.underlying4] at h
  cases v <;> simp at h
  exact ⟨_, rfl, h.symm⟩
theorem plainElem_str_inv {v : Value} {z : DataW Unit × List MemPlace} (h : plainElem Try.prog 9 v = some z) : ∃ x : ByteArray, v = .string x ∧ z = (.lit (.string x.data.toList), []) := by
  unfold plainElem at h
  rw [Try.underlying9] at h
  cases v <;> simp at h
  exact ⟨_, rfl, h.2.symm⟩

/-- 'known[t]'. -/
theorem MapIs.lookB (h : MapIs w 4 fB b n L) {s : ByteArray} (hs : s.size ≤ maxLen) :
    (Instr.lookup 26 (.map (some b)) (.string s) false).run Try.prog w = .ok (.bool (L.contains s.data.toList)) w := by
  obtain ⟨D, h1, h2⟩ := h
  obtain ⟨v, ps, hrun, hv⟩ := h1.lookup law9 Try.underlying26 (zero4 w) (plainElem_bool Try.underlying4 false) (key9 hs)
  obtain ⟨x, rfl, hx⟩ := plainElem_bool_inv hv
  rw [hrun]
  have hat : D.atKey (.string s.data.toList) (.lit (.bool false)) = .lit (.bool x) := congrArg Prod.fst hx
  have e : x = L.contains s.data.toList := by
    cases hc : L.contains s.data.toList
    · rw [Maps.atKey_of_not_has (by rw [h2.has]; exact hc)] at hat
      injection hat with hat
      injection hat with hat
      exact hat.symm
    · rw [h2.at_ _ (by simpa using hc)] at hat
      injection hat with hat
      injection hat with hat
      exact hat.symm
  rw [e]

theorem bytes_ext {x s : ByteArray} (h : x.data.toList = s.data.toList) : x = s := by
  cases x; cases s
  congr 1
  exact Array.ext' h

/-- 'v, ok := m[t]', the map not nil. -/
theorem MapIs.lookS (h : MapIs w 9 fS b n L) {s : ByteArray} (hs : s.size ≤ maxLen) :
    (Instr.lookup 27 (.map (some b)) (.string s) true).run Try.prog w = .ok (.tuple #[.string (if L.contains s.data.toList then s else ByteArray.empty), .bool (L.contains s.data.toList)]) w := by
  obtain ⟨D, h1, h2⟩ := h
  obtain ⟨v, ps, hrun, hv⟩ := h1.look_ok law9 Try.underlying27 (zero9 w) (plainElem_string Try.underlying9 (Nat.zero_le _)) (key9 hs)
  obtain ⟨x, rfl, hx⟩ := plainElem_str_inv hv
  rw [hrun, h2.has]
  have hat : D.atKey (.string s.data.toList) (.lit (.string ByteArray.empty.data.toList)) = .lit (.string x.data.toList) := congrArg Prod.fst hx
  have e : x = if L.contains s.data.toList then s else ByteArray.empty := by
    cases hc : L.contains s.data.toList
    · rw [Maps.atKey_of_not_has (by rw [h2.has]; exact hc)] at hat
      injection hat with hat
      injection hat with hat
      exact bytes_ext hat.symm
    · rw [h2.at_ _ (by simpa using hc)] at hat
      have hat' : DataW.lit (.string s.data.toList) = (DataW.lit (.string x.data.toList) : DataW Unit) := hat
      injection hat' with hat'
      injection hat' with hat'
      exact bytes_ext hat'.symm
  rw [e]
/-- .. of a nil map. -/
theorem lookS_nil (w : World) {s : ByteArray} (hs : s.size ≤ maxLen) :
    (Instr.lookup 27 (.map none) (.string s) true).run Try.prog w = .ok (.tuple #[.string ByteArray.empty, .bool false]) w :=
  Maps.look_nil true law9 Try.underlying27 (zero9 w) (key9 hs)
/-- 'len(m)'. -/
theorem MapIs.len (h : MapIs w 9 fS b n L) (ty : TypeId) : (Builtin.len_ #[27] ty #[.map (some b)]).run Try.prog w = .ok (.int .i64 L.length) w := by
  obtain ⟨D, h1, h2⟩ := h
  rw [h1.len Try.underlying27 ty, h2.size]

/-- 'm[t] = ..'. -/
theorem MapIs.store {t : TypeId} (ht : Try.prog.underlying t = some (.map 9 e)) (h : MapIs w e f b n L) {s : ByteArray} (hs : s.size ≤ maxLen) (hn : n < maxLen) {val : Value} (hval : plainElem Try.prog e val = some (f s.data.toList, [])) :
    ∃ w', (Instr.mapUpdate t (.map (some b)) (.string s) val).run Try.prog w = .ok () w' ∧ MapIs w' e f b (n + 1) (Pl.addL L s.data.toList) ∧ w.grownBy w' (some b) := by
  obtain ⟨D, h1, h2⟩ := h
  obtain ⟨w', hrun, h3, hg⟩ := h1.update law9 ht hn (key9 hs) hval
  exact ⟨w', hrun, ⟨_, h3, h2.put _⟩, hg⟩
end

/-- 'm[t] = ..' at the operation. -/
theorem wpList_mapUpdate_is (w : World) {ops : Array Oper} {rest : List Oper} {pos : String} {after : Array Edge} {ty : TypeId} {a : Act} {Q : Exit → Act → World → Prop}
    (m x v : Operand) (t e : TypeId) (ht : Try.prog.underlying t = some (.map 9 e)) (f : List UInt8 → DataW Unit) (b n : Nat) (L : List (List UInt8))
    (hm : a.eval m = .map (some b)) (hown : MapIs w e f b n L) (hn : n < maxLen) (s : ByteArray) (hs : s.size ≤ maxLen) (hx : a.eval x = .string s) (val : Value) (hv : a.eval v = val)
    (hval : plainElem Try.prog e val = some (f s.data.toList, []))
    (hK : ∀ w', MapIs w' e f b (n + 1) (Pl.addL L s.data.toList) → w.grownBy w' (some b) → wpList Try.prog ops Q rest a w') :
    wpList Try.prog ops Q ({ dst := none, op := Op.mapUpdate t m x v, type := ty, pos := pos, after := after, guard := none } :: rest) a w := by
  refine wpList_plain rfl fun K' hK' => ?_
  obtain ⟨w', hrun, r1, r2⟩ := hown.store ht hs hn hval
  unfold Oper.wp
  simp [execOp, hm, hx, hv, hrun, Result.andThen]
  exact hK' _ _ (hK w' r1 r2)
/-- .. inside a map's literal. -/
theorem wpList_insert_is (w : World) {ops : Array Oper} {rest : List Oper} {pos : String} {after : Array Edge} {ty : TypeId} {a : Act} {Q : Exit → Act → World → Prop}
    (m x v : Operand) (t e : TypeId) (ht : Try.prog.underlying t = some (.map 9 e)) (f : List UInt8 → DataW Unit) (b n : Nat) (L : List (List UInt8))
    (hm : a.eval m = .map (some b)) (hown : MapIs w e f b n L) (hn : n < maxLen) (s : ByteArray) (hs : s.size ≤ maxLen) (hx : a.eval x = .string s) (val : Value) (hv : a.eval v = val)
    (hval : plainElem Try.prog e val = some (f s.data.toList, []))
    (hK : ∀ w', MapIs w' e f b (n + 1) (Pl.addL L s.data.toList) → w.grownBy w' (some b) → wpList Try.prog ops Q rest a w') :
    wpList Try.prog ops Q ({ dst := none, op := Op.insert t m x v, type := ty, pos := pos, after := after, guard := none } :: rest) a w := by
  refine wpList_plain rfl fun K' hK' => ?_
  obtain ⟨w', hrun, r1, r2⟩ := hown.store ht hs hn hval
  unfold Oper.wp
  simp [execOp, hm, hx, hv, hrun, Result.andThen]
  exact hK' _ _ (hK w' r1 r2)
end Go.Proofs.Qxb6623519a
