/-
  The plain law of the interned texts: lists of byte lists, no Go in it.
-/
import Derived.Test.Qxb6623519aRows
namespace Go.Proofs.Qxb6623519a.Pl

/-- A text goes to the list's end if it is not on it. -/
def addL (acc : List (List UInt8)) (x : List UInt8) : List (List UInt8) := if acc.contains x then acc else acc ++ [x]
/-- The distinct ones among the first k keys. -/
def dK (kb : Nat → ByteArray) : Nat → List (List UInt8)
  | 0 => []
  | k + 1 => addL (dK kb k) (kb k).data.toList
/-- What one text does to the model's fresh list. -/
def addF (D acc : List (List UInt8)) (t : List UInt8) : List (List UInt8) := if 64 < t.length then acc else if D.contains t || acc.contains t then acc else acc ++ [t]
/-- The fresh ones among the first i texts. -/
def fT (D : List (List UInt8)) (tb : Nat → ByteArray) : Nat → List (List UInt8)
  | 0 => []
  | i + 1 => addF D (fT D tb i) (tb i).data.toList
/-- What intern does to the keys of its map. -/
def nextL (L : List (List UInt8)) (t : List UInt8) : List (List UInt8) := if 64 < t.length then L else if L.contains t then L else if L.length < 4096 then L ++ [t] else L
/-- The keys of intern's map behind the first i texts. -/
def mT (D : List (List UInt8)) (tb : Nat → ByteArray) : Nat → List (List UInt8)
  | 0 => D
  | i + 1 => nextL (mT D tb i) (tb i).data.toList

theorem dK_le (kb : Nat → ByteArray) : ∀ k, (dK kb k).length ≤ k
  | 0 => Nat.le_refl _
  | k + 1 => by
    have := dK_le kb k
    show (addL (dK kb k) _).length ≤ _
    unfold addL
    split
    · omega
    · simp; omega
theorem fT_le (D : List (List UInt8)) (tb : Nat → ByteArray) : ∀ k, (fT D tb k).length ≤ k
  | 0 => Nat.le_refl _
  | k + 1 => by
    have := fT_le D tb k
    show (addF D (fT D tb k) _).length ≤ _
    unfold addF
    split
    · omega
    · split
      · omega
      · simp; omega
theorem mem_addL {acc : List (List UInt8)} {x y : List UInt8} (h : y ∈ acc) : y ∈ addL acc x := by
  unfold addL
  split
  · exact h
  · simp [h]
theorem self_addL (acc : List (List UInt8)) (x : List UInt8) : x ∈ addL acc x := by
  unfold addL
  split
  · rename_i h; simpa using h
  · simp
/-- Every key is among the distinct ones. -/
theorem key_mem (kb : Nat → ByteArray) : ∀ k j, j < k → (kb j).data.toList ∈ dK kb k
  | 0, _, h => absurd h (Nat.not_lt_zero _)
  | k + 1, j, h => by
    by_cases e : j = k
    · subst e; exact self_addL _ _
    · exact mem_addL (key_mem kb k j (by omega))
theorem fT_apart (D : List (List UInt8)) (tb : Nat → ByteArray) : ∀ i, (fT D tb i).Pairwise (· ≠ ·) ∧ ∀ x ∈ fT D tb i, x ∉ D
  | 0 => ⟨List.Pairwise.nil, by simp [fT]⟩
  | i + 1 => by
    obtain ⟨h1, h2⟩ := fT_apart D tb i
    show (addF D (fT D tb i) _).Pairwise (· ≠ ·) ∧ ∀ x ∈ addF D (fT D tb i) _, x ∉ D
    unfold addF
    split
    · exact ⟨h1, h2⟩
    · split
      · exact ⟨h1, h2⟩
      · rename_i h3
        have h3' : ¬ (tb i).data.toList ∈ D ∧ ¬ (tb i).data.toList ∈ fT D tb i := by simpa using h3
        refine ⟨?_, ?_⟩
        · rw [List.pairwise_append]
          refine ⟨h1, List.pairwise_singleton _ _, ?_⟩
          intro a ha b hb
          simp at hb
          subst hb
          intro e
          subst e
          exact h3'.2 ha
        · intro x hx
          simp only [List.mem_append, List.mem_singleton] at hx
          rcases hx with hx | hx
          · exact h2 x hx
          · subst hx; exact h3'.1
/-- THE PLAIN LAW: intern's map holds the keys and the first room fresh texts. -/
theorem mT_eq (D : List (List UInt8)) (tb : Nat → ByteArray) : ∀ i, mT D tb i = D ++ (fT D tb i).take (4096 - D.length)
  | 0 => by simp [mT, fT]
  | i + 1 => by
    have ih := mT_eq D tb i
    show nextL (mT D tb i) _ = D ++ (addF D (fT D tb i) _).take _
    rw [ih]
    generalize (tb i).data.toList = t
    generalize fT D tb i = F
    unfold nextL addF
    by_cases h64 : 64 < t.length
    · rw [if_pos h64, if_pos h64]
    · rw [if_neg h64, if_neg h64]
      by_cases hc : (D ++ F.take (4096 - D.length)).contains t = true
      · rw [if_pos hc]
        have hd : (D.contains t || F.contains t) = true := by
          have hm : t ∈ D ∨ t ∈ F.take (4096 - D.length) := by simpa using hc
          rcases hm with hm | hm
          · simp [hm]
          · simp [List.mem_of_mem_take hm]
        rw [if_pos hd]
      · rw [if_neg hc]
        have hn : ¬ t ∈ D ∧ ¬ t ∈ F.take (4096 - D.length) := by simpa using hc
        have hl : (D ++ F.take (4096 - D.length)).length = D.length + min (4096 - D.length) F.length := by simp
        by_cases hs : (D ++ F.take (4096 - D.length)).length < 4096
        · rw [if_pos hs]
          rw [hl] at hs
          have hF : F.length < 4096 - D.length := by omega
          rw [List.take_of_length_le (Nat.le_of_lt hF)] at hn ⊢
          rw [if_neg (by simp [hn.1, hn.2]), List.take_of_length_le (by simp; omega), List.append_assoc]
        · rw [if_neg hs]
          rw [hl] at hs
          have hF : 4096 - D.length ≤ F.length := by omega
          split
          · rfl
          · rw [List.take_append_of_le_length hF]
theorem mT_length (D : List (List UInt8)) (tb : Nat → ByteArray) (i : Nat) : (mT D tb i).length = D.length + min (4096 - D.length) (fT D tb i).length := by
  rw [mT_eq]; simp
theorem mem_mT {D : List (List UInt8)} (tb : Nat → ByteArray) (i : Nat) {x : List UInt8} (h : x ∈ D) : x ∈ mT D tb i := by
  rw [mT_eq]; simp [h]
/-- A fresh text among the first room is in the map. -/
theorem fresh_in (D : List (List UInt8)) (tb : Nat → ByteArray) (i j : Nat) {x : List UInt8} (h : (fT D tb i)[j]? = some x) (hj : j < 4096 - D.length) : x ∈ mT D tb i := by
  rw [mT_eq, List.mem_append]
  right
  have : ((fT D tb i).take (4096 - D.length))[j]? = some x := by rw [List.getElem?_take_of_lt hj]; exact h
  exact List.mem_of_getElem? this
/-- A later one is not. -/
theorem fresh_out (D : List (List UInt8)) (tb : Nat → ByteArray) (i j : Nat) {x : List UInt8} (h : (fT D tb i)[j]? = some x) (hj : 4096 - D.length ≤ j) : x ∉ mT D tb i := by
  obtain ⟨h1, h2⟩ := fT_apart D tb i
  rw [mT_eq, List.mem_append]
  rintro (hx | hx)
  · exact h2 x (List.mem_of_getElem? h) hx
  · obtain ⟨k, hk⟩ := List.mem_iff_getElem?.1 hx
    have hkl : k < 4096 - D.length := by
      rcases Nat.lt_or_ge k (4096 - D.length) with hlt | hge
      · exact hlt
      · rw [List.getElem?_take_eq_none hge] at hk; cases hk
    rw [List.getElem?_take_of_lt hkl] at hk
    have hjl : j < (fT D tb i).length := (List.getElem?_eq_some_iff.1 h).1
    have hkl' : k < (fT D tb i).length := (List.getElem?_eq_some_iff.1 hk).1
    have e1 := (List.getElem?_eq_some_iff.1 h).2
    have e2 := (List.getElem?_eq_some_iff.1 hk).2
    exact (List.pairwise_iff_getElem.1 h1) k j hkl' hjl (by omega) (by rw [e1, e2])
end Go.Proofs.Qxb6623519a.Pl
