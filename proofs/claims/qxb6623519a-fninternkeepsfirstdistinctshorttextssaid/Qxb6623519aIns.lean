/-
  What the walks are told of the two arguments, and small laws: no walk in this text.
-/
import Derived.Test.Qxb6623519aRows
import Derived.WalkKit
import Derived.WalkSpells
import Derived.WalkLawsBesides
namespace Go.Proofs.Qxb6623519a
open Go.RowKit

/-- The keys: key j is the string kb j. The texts: text j is the slice (va j, vl j, vc j), whose bytes are tb j. -/
structure Ins (w : World) (ka : Option Addr) (kn : Nat) (kb : Nat → ByteArray) (ta : Option Addr) (tn : Nat) (va : Nat → Option Addr) (vl vc : Nat → Nat) (tb : Nat → ByteArray) : Prop where
  keys : ∀ j, j < kn → ∃ b o, ka = some ⟨b, o, none⟩ ∧ b < w.heap.size ∧ w.cell? ⟨b, o + j, none⟩ = some (.string (kb j)) ∧ (kb j).size ≤ maxLen
  texts : ∀ j, j < tn → ∃ b o, ta = some ⟨b, o, none⟩ ∧ b < w.heap.size ∧ w.cell? ⟨b, o + j, none⟩ = some (.slice (va j) (vl j) (vc j)) ∧ vl j ≤ maxLen ∧ (tb j).size = vl j ∧
    ∀ W, Below w.heap.size w W → (convert 25 9 (.slice (va j) (vl j) (vc j))).run Try.prog W = .ok (.string (tb j)) W
  knil : ka = none → kn = 0
  kmax : kn ≤ maxLen
  tmax : tn ≤ maxLen

theorem index22 (b o n c k : Nat) (h : k < n) : ∀ W, (Instr.indexAt 22 (.slice (some ⟨b, o, none⟩) n c) (.int .i64 (k : Int))).run Try.prog W = .ok (.pointer (some ⟨b, o + k, none⟩)) W := by
  intro W
  have h0 : (0 : Int) ≤ (k : Int) ∧ (k : Int) < (n : Int) := by omega
  have hs : (sizeOf 9).run Try.prog W = .ok 1 W := by kernel_rfl
  have he : Try.prog.elem 22 = 9 := by simp [Program.elem, Try.underlying22]
  rw [run_indexAt_slice W 22 ⟨b, o, none⟩ n c .i64 k (by rw [he]; exact Try.underlying22), if_pos h0, he, hs]
  simp [Result.andThen, Addr.add]
theorem index23 (b o n c k : Nat) (h : k < n) : ∀ W, (Instr.indexAt 23 (.slice (some ⟨b, o, none⟩) n c) (.int .i64 (k : Int))).run Try.prog W = .ok (.pointer (some ⟨b, o + k, none⟩)) W := by
  intro W
  have h0 : (0 : Int) ≤ (k : Int) ∧ (k : Int) < (n : Int) := by omega
  have hs : (sizeOf 25).run Try.prog W = .ok 1 W := by kernel_rfl
  have he : Try.prog.elem 23 = 25 := by simp [Program.elem, Try.underlying23]
  rw [run_indexAt_slice W 23 ⟨b, o, none⟩ n c .i64 k (by rw [he]; exact Try.underlying23), if_pos h0, he, hs]
  simp [Result.andThen, Addr.add]

/-- Key k, as the walk asks for it in a later world. -/
theorem Ins.key {w : World} {ka : Option Addr} {kn : Nat} {kb : Nat → ByteArray} {ta : Option Addr} {tn : Nat} {va : Nat → Option Addr} {vl vc : Nat → Nat} {tb : Nat → ByteArray} (h : Ins w ka kn kb ta tn va vl vc tb) {k : Nat} (hk : k < kn) (kc : Nat) :
    ∃ b o s, kb k = s ∧ s.size ≤ maxLen ∧ (∀ W, (Instr.indexAt 22 (.slice ka kn kc) (.int .i64 (k : Int))).run Try.prog W = .ok (.pointer (some ⟨b, o + k, none⟩)) W) ∧ ∀ W, Below w.heap.size w W → W.cell? ⟨b, o + k, none⟩ = some (.string s) := by
  obtain ⟨b, o, rfl, hb, hc, hs⟩ := h.keys k hk
  exact ⟨b, o, kb k, rfl, hs, index22 b o kn kc k hk, fun W hB => (hB.cell (p := ⟨b, o + k, none⟩) hb).trans hc⟩
/-- Text k. -/
theorem Ins.text {w : World} {ka : Option Addr} {kn : Nat} {kb : Nat → ByteArray} {ta : Option Addr} {tn : Nat} {va : Nat → Option Addr} {vl vc : Nat → Nat} {tb : Nat → ByteArray} (h : Ins w ka kn kb ta tn va vl vc tb) {k : Nat} (hk : k < tn) (tc : Nat) :
    ∃ b o v l c t, tb k = t ∧ vl k = l ∧ t.size = l ∧ l ≤ maxLen ∧ (∀ W, (Instr.indexAt 23 (.slice ta tn tc) (.int .i64 (k : Int))).run Try.prog W = .ok (.pointer (some ⟨b, o + k, none⟩)) W) ∧
      (∀ W, Below w.heap.size w W → W.cell? ⟨b, o + k, none⟩ = some (.slice v l c)) ∧ ∀ W, Below w.heap.size w W → (convert 25 9 (.slice v l c)).run Try.prog W = .ok (.string t) W := by
  obtain ⟨b, o, rfl, hb, hc, hl, hs, hv⟩ := h.texts k hk
  exact ⟨b, o, va k, vl k, vc k, tb k, rfl, rfl, hs, hl, index23 b o tn tc k hk, fun W hB => (hB.cell (p := ⟨b, o + k, none⟩) hb).trans hc, hv⟩
end Go.Proofs.Qxb6623519a
