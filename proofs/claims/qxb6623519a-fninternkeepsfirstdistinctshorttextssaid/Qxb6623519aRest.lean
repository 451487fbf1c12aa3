/-
  The law's body, statement by statement; what the loops' relations say of slices and of the skimmer.
-/
import Derived.Test.Qxb6623519aIntern
namespace Go.Proofs.Qxb6623519a
open Go.RowKit Go.Maps

/-- The rest of a body behind its first n statements; its first statement. -/
def dropS : Nat → Code → Code
  | 0, c => c
  | n + 1, .seq _ b => dropS n b
  | _ + 1, c => c
def headS : Code → Code
  | .seq a _ => a
  | c => c
def isSeq : Code → Bool
  | .seq _ _ => true
  | _ => false
theorem dropS_skip : ∀ (n : Nat) (c : Code), isSeq (dropS n c) = true → dropS n c = .seq (headS (dropS n c)) (dropS (n + 1) c)
  | 0, c, h => by
    cases c <;> first | rfl | cases h
  | n + 1, c, h => by
    cases c <;> first | (cases h; done) | exact dropS_skip n _ h
/-- What is to be shown of the law's end. -/
def Post (w0 : World) (e : Ending) (w' : World) : Prop := e = .returned (.bool true) ∧ Below w0.heap.size w0 w'
/-- The law's body behind its first n statements comes to that end. -/
def Rest (n : Nat) (w0 : World) (a : Act) (w : World) : Prop := Code.wp Try.prog (dropS n (Try.f3.body.getD .skip)) (bodyPost Try.prog Try.f3 (Post w0)) a w
theorem rest_step (n : Nat) {w0 w : World} {a : Act} (hs : isSeq (dropS n (Try.f3.body.getD .skip)) = true)
    (h : Code.wp Try.prog (headS (dropS n (Try.f3.body.getD .skip))) (Exit.then (Rest (n + 1) w0) (bodyPost Try.prog Try.f3 (Post w0))) a w) : Rest n w0 a w := by
  unfold Rest
  rw [dropS_skip n _ hs]
  exact wp_seq h

/-- A slice of strings. -/
def Strs (w : World) (a : Option Addr) (n : Nat) (kb : Nat → ByteArray) : Prop :=
  ∀ j, j < n → ∃ b o, a = some ⟨b, o, none⟩ ∧ b < w.heap.size ∧ w.cell? ⟨b, o + j, none⟩ = some (.string (kb j)) ∧ (kb j).size ≤ maxLen
theorem Strs.get {w : World} {a : Option Addr} {n : Nat} {kb : Nat → ByteArray} (h : Strs w a n kb) {k : Nat} (hk : k < n) (c : Nat) :
    ∃ b o s, kb k = s ∧ s.size ≤ maxLen ∧ (∀ W, (Instr.indexAt 22 (.slice a n c) (.int .i64 (k : Int))).run Try.prog W = .ok (.pointer (some ⟨b, o + k, none⟩)) W) ∧ b < w.heap.size ∧ w.cell? ⟨b, o + k, none⟩ = some (.string s) := by
  obtain ⟨b, o, rfl, hb, hc, hs⟩ := h k hk
  exact ⟨b, o, kb k, rfl, hs, index22 b o n c k hk, hb, hc⟩

/-- The look-ups of the map whose keys are M. -/
def Looks (w : World) (r : Option Nat) (M : List (List UInt8)) : Prop :=
  ∀ s : ByteArray, s.size ≤ maxLen → (Instr.lookup 27 (.map r) (.string s) true).run Try.prog w = .ok (.tuple #[.string (if M.contains s.data.toList then s else ByteArray.empty), .bool (M.contains s.data.toList)]) w

theorem Strs.below {w w' : World} {a : Option Addr} {n : Nat} {kb : Nat → ByteArray} (h : Strs w a n kb) (hB : Below w.heap.size w w') : Strs w' a n kb := fun j hj => by
  obtain ⟨b, o, e, hb, hc, hs⟩ := h j hj
  exact ⟨b, o, e, Nat.lt_of_lt_of_le hb hB.size, (hB.cell (p := ⟨b, o + j, none⟩) hb).trans hc, hs⟩

theorem Held.looks {w : World} {sb base : Nat} {r : Option Nat} {n : Nat} {M : List (List UInt8)} (h : Held w sb base r n M) : Looks w r M := fun s hs => by
  cases r with
  | none =>
    rw [h.2.2.1 rfl]
    exact lookS_nil w hs
  | some b => exact (h.2.2.2 b rfl).2.2.lookS hs
theorem Held.len {w : World} {sb base : Nat} {r : Option Nat} {n : Nat} {M : List (List UInt8)} (h : Held w sb base r n M) (ty : TypeId) : (Builtin.len_ #[27] ty #[.map r]).run Try.prog w = .ok (.int .i64 M.length) w := by
  cases r with
  | none =>
    rw [h.2.2.1 rfl]
    exact Maps.len_nil Try.underlying27 ty
  | some b => exact (h.2.2.2 b rfl).2.2.len ty
end Go.Proofs.Qxb6623519a
