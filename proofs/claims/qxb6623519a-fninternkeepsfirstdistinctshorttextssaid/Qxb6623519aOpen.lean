/-
  From what the row's reader gives of the two arguments to what the walks ask.
-/
import Derived.Test.Qxb6623519aIns
import Derived.ProofKit
import Derived.SliceStrings
import Derived.Deep.Matrix
import Derived.Laws.BytesArg
namespace Go.Proofs.Qxb6623519a
open Go.RowKit Go.ChangeShapes Go.WideShapes Go.ChangeAt Go.Deep

theorem cells5 : Try.prog.cellsOf 5 = 1 := by kernel_rfl
theorem cells9 : Try.prog.cellsOf 9 = 1 := by kernel_rfl
theorem cells25 : Try.prog.cellsOf 25 = 1 := by kernel_rfl

/-- An address at which a cell lies is plain. -/
theorem plain_of {w : World} {a : Addr} {v : Value} (h : w.cell? (a.add 0) = some v) : ∃ b o, a = ⟨b, o, none⟩ := by
  obtain ⟨b, off, spot⟩ := a
  have hspot : spot = none := by simpa [Addr.add] using World.cell?_spot h
  exact ⟨b, off, by rw [hspot]⟩
theorem add_plain' (b o j : Nat) : (⟨b, o, none⟩ : Addr).add j = ⟨b, o + j, none⟩ := by unfold Addr.add; split <;> simp_all

/-- 'string(text)'. -/
theorem conv_bytes {W : World} (a : Addr) (l c : Nat) (zs : List Int) (hl : zs.length = l) (hc : ∀ i, i < l → W.cell? (a.add i) = some (.int .u8 (zs.getD i 0))) :
    (convert 25 9 (.slice (some a) l c)).run Try.prog W = .ok (.string (strOfNums zs)) W := by
  have h1 : (loadCells a l).run Try.prog W = .ok (zs.map (Value.int .u8)).toArray W := by
    have := run_loadCells_list (P := Try.prog) W a (zs.map (Value.int .u8)) (fun j v hj => by
      have hjl : j < zs.length := by
        rcases Nat.lt_or_ge j zs.length with h | h
        · exact h
        · simp [List.getElem?_eq_none (show (zs.map (Value.int .u8)).length ≤ j by simpa using h)] at hj
      rw [hc j (by omega)]
      simp [List.getElem?_eq_getElem hjl] at hj
      subst hj
      simp [List.getD, List.getElem?_eq_getElem hjl])
    simpa [hl] using this
  rw [run_convert_bytes_string W 25 9 5 _ l c Try.underlying25 Try.underlying5 Try.underlying9, run_bytesToString W _ l c zs h1, foldl_push_bytes]
  simp [strOfNums, ByteArray.empty, ByteArray.emptyWithCapacity]
  rfl
theorem conv_nil (W : World) (c : Nat) : (convert 25 9 (.slice none 0 c)).run Try.prog W = .ok (.string (strOfNums [])) W :=
  run_convert_bytes_nil W 25 5 Try.underlying25 Try.underlying5 0 c 9 Try.underlying9

section
variable {H : Type} {enc : TypeId × Value → H} {W : World} {d : DataW H} {p : List MemPlace}

/-- The keys. -/
theorem open_keys {ka : Option Addr} {kn kc : Nat} (h : DataW.Trod enc Try.prog W 0 (fun _ => true) true 22 (.slice ka kn kc) d p) :
    ∃ kb : Nat → ByteArray, (∀ j, j < kn → ∃ b o, ka = some ⟨b, o, none⟩ ∧ b < W.heap.size ∧ W.cell? ⟨b, o + j, none⟩ = some (.string (kb j)) ∧ (kb j).size ≤ maxLen) ∧ (ka = none → kn = 0) ∧ kn ≤ maxLen := by
  obtain ⟨fuel, hf⟩ := h
  rcases open_strings Try.underlying22 Try.underlying9 cells9 hf with ⟨hcs, _⟩ | ⟨a, len, cap, ss, hcs, _, hl, hm, hz, _, hcell, hws⟩
  · simp [Value.cells] at hcs
    obtain ⟨rfl, rfl, rfl⟩ := hcs
    exact ⟨fun _ => ByteArray.empty, fun j hj => absurd hj (Nat.not_lt_zero _), fun _ => rfl, Nat.zero_le _⟩
  · simp [Value.cells] at hcs
    obtain ⟨rfl, rfl, rfl⟩ := hcs
    have hz' : ss.length = kc := by simpa using hz
    refine ⟨fun j => ss.getD j ByteArray.empty, fun j hj => ?_, (fun e => by cases e), by omega⟩
    obtain ⟨b, o, rfl⟩ := plain_of (hcell 0 (by omega))
    have hc := hcell j (by omega)
    rw [add_plain'] at hc
    refine ⟨b, o, rfl, block_lt_of_cell hc, hc, ?_⟩
    have hjl : j < ss.length := by omega
    show (ss.getD j ByteArray.empty).size ≤ maxLen
    rw [List.getD, List.getElem?_eq_getElem hjl]
    exact hws _ (List.getElem_mem hjl)

/-- The texts. -/
theorem open_texts {ta : Option Addr} {tn tc : Nat} (h : DataW.Trod enc Try.prog W 0 (fun _ => true) true 23 (.slice ta tn tc) d p) :
    ∃ (va : Nat → Option Addr) (vl vc : Nat → Nat) (tb : Nat → ByteArray), (∀ j, j < tn → ∃ b o, ta = some ⟨b, o, none⟩ ∧ b < W.heap.size ∧ W.cell? ⟨b, o + j, none⟩ = some (.slice (va j) (vl j) (vc j)) ∧ vl j ≤ maxLen ∧ (tb j).size = vl j ∧
      ∀ W', Below W.heap.size W W' → (convert 25 9 (.slice (va j) (vl j) (vc j))).run Try.prog W' = .ok (.string (tb j)) W') ∧ tn ≤ maxLen := by
  obtain ⟨fuel, hf⟩ := h
  rcases open_int_rows Try.underlying23 Try.underlying25 Try.underlying5 cells25 cells5 hf with ⟨hcs, _⟩ | ⟨a, len, cap, A, L, C, Z, hcs, _, hl, hm, _, hx⟩
  · simp [Value.cells] at hcs
    obtain ⟨rfl, rfl, rfl⟩ := hcs
    exact ⟨fun _ => none, fun _ => 0, fun _ => 0, fun _ => ByteArray.empty, fun j hj => absurd hj (Nat.not_lt_zero _), Nat.zero_le _⟩
  · simp [Value.cells] at hcs
    obtain ⟨rfl, rfl, rfl⟩ := hcs
    refine ⟨A, L, C, fun j => strOfNums ((Z j).take (L j)), fun j hj => ?_, by omega⟩
    obtain ⟨b, o, rfl⟩ := plain_of (hx 0 (by omega)).1
    obtain ⟨hc, hLC, hCm, hZ, _, hnone, hsome⟩ := hx j (by omega)
    rw [add_plain'] at hc
    refine ⟨b, o, rfl, block_lt_of_cell hc, hc, by omega, ?_, fun W' hB => ?_⟩
    · rw [strOfNums_size, List.length_take]; omega
    · cases hA : A j with
      | none =>
        have h0 : L j = 0 := by have := hnone hA; omega
        show (convert 25 9 (.slice none (L j) (C j))).run Try.prog W' = .ok (.string (strOfNums ((Z j).take (L j)))) W'
        rw [h0]
        exact conv_nil W' _
      | some a' =>
        refine conv_bytes a' (L j) (C j) _ (by rw [List.length_take]; omega) (fun i hi => ?_)
        have hci := (hsome a' hA).2 i (by omega)
        rw [hB.cell (block_lt_of_cell hci), hci]
        congr 2
        simp [List.getD, hi]

/-- Both. -/
theorem open_ins {d' : DataW H} {p' : List MemPlace} {ka ta : Option Addr} {kn kc tn tc : Nat} (h0 : DataW.Trod enc Try.prog W 0 (fun _ => true) true 22 (.slice ka kn kc) d p) (h1 : DataW.Trod enc Try.prog W 0 (fun _ => true) true 23 (.slice ta tn tc) d' p') :
    ∃ kb va vl vc tb, Ins W ka kn kb ta tn va vl vc tb := by
  obtain ⟨kb, k1, k2, k3⟩ := open_keys h0
  obtain ⟨va, vl, vc, tb, t1, t2⟩ := open_texts h1
  exact ⟨kb, va, vl, vc, tb, ⟨k1, t1, k2, k3, t2⟩⟩
end
end Go.Proofs.Qxb6623519a
