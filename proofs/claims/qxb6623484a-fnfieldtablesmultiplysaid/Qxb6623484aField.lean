/-
  The plain mathematics of the field's tables: no Go in it. X n: the n-th power of 2 in GF(2^8); mulM: the schoolbook product and its reduction, as two folds; lg: the logarithm's table.
-/
import Derived.Test.Qxb6623484aRows
namespace Go.Proofs.Qxb6623484a.Fld
def stepN (x : Nat) : Nat := bif Nat.beq (Nat.land (x * 2) 256) 0 then x * 2 else Nat.xor (x * 2) 285
def X : Nat → Nat
  | 0 => 1
  | n + 1 => stepN (X n)
def pK (a b : Nat) : Nat → Nat
  | 0 => 0
  | k + 1 => bif Nat.beq (Nat.land (b / 2 ^ k) 1) 0 then pK a b k else Nat.xor (pK a b k) (a * 2 ^ k)
def rK (p : Nat) : Nat → Nat
  | 0 => p
  | j + 1 => bif Nat.beq (Nat.land (rK p j) (2 ^ (14 - j))) 0 then rK p j else Nat.xor (rK p j) (285 * 2 ^ (6 - j))
def mulM (a b : Nat) : Nat := rK (pK a b 8) 7
def allB (n : Nat) (f : Nat → Bool) : Bool := Nat.rec true (fun k r => bif f k then r else false) n
theorem allB_at {f : Nat → Bool} : ∀ {n : Nat}, allB n f = true → ∀ k, k < n → f k = true
  | 0, _, k, hk => absurd hk (Nat.not_lt_zero k)
  | n + 1, h, k, hk => by
    have h' : (bif f n then allB n f else false) = true := h
    cases hf : f n
    · rw [hf] at h'; cases h'
    · rw [hf] at h'
      by_cases e : k = n
      · rw [e]; exact hf
      · exact allB_at (n := n) h' k (by omega)

/-- The conditional reduction is linear. -/
def red (m c p : Nat) : Nat := bif Nat.beq (Nat.land p (2 ^ m)) 0 then p else Nat.xor p c
theorem beq_bit (m p : Nat) : Nat.beq (Nat.land p (2 ^ m)) 0 = !p.testBit m := by
  have h : Nat.land p (2 ^ m) = (p.testBit m).toNat * 2 ^ m := by
    show p &&& 2 ^ m = _
    apply Nat.eq_of_testBit_eq
    intro i
    rw [Nat.testBit_and, Nat.testBit_two_pow]
    by_cases e : m = i
    · subst e
      cases hb : p.testBit m <;> simp
    · cases hb : p.testBit m <;> simp [e]
  rw [h]
  cases p.testBit m
  · simp
  · simp
    have := Nat.two_pow_pos m
    cases hb : Nat.beq (2 ^ m) 0
    · rfl
    · have := Nat.eq_of_beq_eq_true hb; omega
theorem red_eq (m c p : Nat) : red m c p = if p.testBit m then p ^^^ c else p := by
  unfold red; rw [beq_bit]; cases p.testBit m <;> rfl
theorem red_xor (m c p q : Nat) : red m c (p ^^^ q) = red m c p ^^^ red m c q := by
  rw [red_eq, red_eq, red_eq, Nat.testBit_xor]
  cases p.testBit m <;> cases q.testBit m <;> simp
  · rw [Nat.xor_assoc]
  · rw [Nat.xor_assoc, Nat.xor_comm q c, ← Nat.xor_assoc]
  · rw [Nat.xor_assoc, Nat.xor_comm q c, ← Nat.xor_assoc c c q, Nat.xor_self, Nat.zero_xor]
theorem mul_xor (a b k : Nat) : (a ^^^ b) * 2 ^ k = a * 2 ^ k ^^^ b * 2 ^ k := by
  rw [← Nat.shiftLeft_eq, ← Nat.shiftLeft_eq, ← Nat.shiftLeft_eq, Nat.shiftLeft_xor_distrib]
theorem stepN_red (x : Nat) : stepN x = red 8 285 (x * 2 ^ 1) := rfl
theorem stepN_xor (a b : Nat) : stepN (a ^^^ b) = stepN a ^^^ stepN b := by
  rw [stepN_red, stepN_red, stepN_red, mul_xor, red_xor]
theorem rK_succ (p j : Nat) : rK p (j + 1) = red (14 - j) (285 * 2 ^ (6 - j)) (rK p j) := rfl
theorem rK_xor (p q : Nat) : ∀ j, rK (p ^^^ q) j = rK p j ^^^ rK q j
  | 0 => rfl
  | j + 1 => by rw [rK_succ, rK_succ, rK_succ, rK_xor p q j, red_xor]
theorem pK_succ (a b k : Nat) : pK a b (k + 1) = bif Nat.beq (Nat.land (b / 2 ^ k) 1) 0 then pK a b k else pK a b k ^^^ (a * 2 ^ k) := rfl
theorem pK_xor (a c b : Nat) : ∀ k, pK (a ^^^ c) b k = pK a b k ^^^ pK c b k
  | 0 => (Nat.xor_self 0).symm
  | k + 1 => by
    rw [pK_succ, pK_succ, pK_succ, pK_xor a c b k, mul_xor]
    cases Nat.beq (Nat.land (b / 2 ^ k) 1) 0
    · show _ ^^^ _ = _ ^^^ _
      simp only [cond_false]
      rw [Nat.xor_assoc, Nat.xor_assoc, ← Nat.xor_assoc (pK c b k), Nat.xor_comm (pK c b k) (a * 2 ^ k), Nat.xor_assoc (a * 2 ^ k)]
    · rfl
theorem mulM_xor (a c b : Nat) : mulM (a ^^^ c) b = mulM a b ^^^ mulM c b := by
  unfold mulM; rw [pK_xor, rK_xor]

set_option maxRecDepth 100000 in
theorem chk_pow : allB 8 (fun n => allB 256 (fun b => Nat.beq (mulM (2 ^ n) (stepN b)) (stepN (mulM (2 ^ n) b)))) = true := by decide +kernel
set_option maxRecDepth 100000 in
theorem chk_zero : allB 256 (fun b => Nat.beq (mulM 0 (stepN b)) (stepN (mulM 0 b))) = true := by decide +kernel
set_option maxRecDepth 100000 in
theorem chk_one : allB 256 (fun a => Nat.beq (mulM a 1) a) = true := by decide +kernel
set_option maxRecDepth 100000 in
theorem chk_a0 : allB 256 (fun a => Nat.beq (mulM a 0) 0) = true := by decide +kernel
set_option maxRecDepth 100000 in
theorem chk_0b : allB 256 (fun a => Nat.beq (mulM 0 a) 0) = true := by decide +kernel
set_option maxRecDepth 100000 in
theorem chk_step : allB 256 (fun b => Nat.blt (stepN b) 256) = true := by decide +kernel

theorem mul_step_bits (b : Nat) (hb : b < 256) : ∀ n, n ≤ 8 → ∀ a, a < 2 ^ n → mulM a (stepN b) = stepN (mulM a b)
  | 0, _, a, ha => by
    have : a = 0 := by simpa using ha
    rw [this]
    exact Nat.eq_of_beq_eq_true (allB_at chk_zero b hb)
  | n + 1, hn, a, ha => by
    by_cases h : a < 2 ^ n
    · exact mul_step_bits b hb n (by omega) a h
    · have hp : 2 ^ (n + 1) = 2 ^ n + 2 ^ n := by rw [Nat.pow_succ]; omega
      have hr : a - 2 ^ n < 2 ^ n := by omega
      have e : a = 2 ^ n ^^^ (a - 2 ^ n) := by
        apply Nat.eq_of_testBit_eq
        intro i
        rw [Nat.testBit_xor, Nat.testBit_two_pow]
        have ea : a = 2 ^ n + (a - 2 ^ n) := by omega
        by_cases hi : n = i
        · subst hi
          rw [ea, Nat.testBit_two_pow_add_eq]
          have : (a - 2 ^ n).testBit n = false := Nat.testBit_lt_two_pow hr
          simp [this]
        · rw [ea]
          simp [hi]
          by_cases hlt : i < n
          · rw [Nat.testBit_two_pow_add_gt hlt]
          · rw [Nat.testBit_lt_two_pow (x := 2 ^ n + (a - 2 ^ n)) (i := i), Nat.testBit_lt_two_pow]
            · exact Nat.lt_of_lt_of_le hr (Nat.pow_le_pow_right (by decide) (by omega))
            · have : 2 ^ (n + 1) ≤ 2 ^ i := Nat.pow_le_pow_right (by decide) (by omega)
              omega
      rw [e, mulM_xor, mulM_xor, stepN_xor, mul_step_bits b hb n (by omega) _ hr]
      have := Nat.eq_of_beq_eq_true (allB_at (allB_at chk_pow n (by omega)) b hb)
      rw [this]
theorem stepN_lt {x : Nat} (h : x < 256) : stepN x < 256 := by
  have := allB_at chk_step x h
  simpa [Nat.blt_eq] using this
theorem X_lt : ∀ n, X n < 256
  | 0 => by decide
  | n + 1 => stepN_lt (X_lt n)
theorem mul_X (a : Nat) (ha : a < 256) : ∀ j, mulM a (X (j + 1)) = stepN (mulM a (X j)) := fun j =>
  mul_step_bits (X j) (X_lt j) 8 (Nat.le_refl _) a (by simpa using ha)
theorem mul_XX (i : Nat) : ∀ j, mulM (X i) (X j) = X (i + j)
  | 0 => Nat.eq_of_beq_eq_true (allB_at chk_one (X i) (X_lt i))
  | j + 1 => by rw [mul_X (X i) (X_lt i) j, mul_XX i j]; rfl
theorem X_255 : X 255 = 1 := by decide +kernel
theorem X_add : ∀ n, X (n + 255) = X n
  | 0 => X_255
  | n + 1 => by
    have e : n + 1 + 255 = (n + 255) + 1 := by omega
    rw [e]
    show stepN (X (n + 255)) = stepN (X n)
    rw [X_add n]
theorem mulM_zero_right (a : Nat) (ha : a < 256) : mulM a 0 = 0 := Nat.eq_of_beq_eq_true (allB_at chk_a0 a ha)
theorem mulM_zero_left (a : Nat) (ha : a < 256) : mulM 0 a = 0 := Nat.eq_of_beq_eq_true (allB_at chk_0b a ha)

def logT : List Nat := [0, 0, 1, 25, 2, 50, 26, 198, 3, 223, 51, 238, 27, 104, 199, 75, 4, 100, 224, 14, 52, 141, 239, 129, 28, 193, 105, 248, 200, 8, 76, 113, 5, 138, 101, 47, 225, 36, 15, 33, 53, 147, 142, 218, 240, 18, 130, 69, 29, 181, 194, 125, 106, 39, 249, 185, 201, 154, 9, 120, 77, 228, 114, 166, 6, 191, 139, 98, 102, 221, 48, 253, 226, 152, 37, 179, 16, 145, 34, 136, 54, 208, 148, 206, 143, 150, 219, 189, 241, 210, 19, 92, 131, 56, 70, 64, 30, 66, 182, 163, 195, 72, 126, 110, 107, 58, 40, 84, 250, 133, 186, 61, 202, 94, 155, 159, 10, 21, 121, 43, 78, 212, 229, 172, 115, 243, 167, 87, 7, 112, 192, 247, 140, 128, 99, 13, 103, 74, 222, 237, 49, 197, 254, 24, 227, 165, 153, 119, 38, 184, 180, 124, 17, 68, 146, 217, 35, 32, 137, 46, 55, 63, 209, 91, 149, 188, 207, 205, 144, 135, 151, 178, 220, 252, 190, 97, 242, 86, 211, 171, 20, 42, 93, 158, 132, 60, 57, 83, 71, 109, 65, 162, 31, 45, 67, 216, 183, 123, 164, 118, 196, 23, 73, 236, 127, 12, 111, 246, 108, 161, 59, 82, 41, 157, 85, 170, 251, 96, 134, 177, 187, 204, 62, 90, 203, 89, 95, 176, 156, 169, 160, 81, 11, 245, 22, 235, 122, 117, 44, 215, 79, 174, 213, 233, 230, 231, 173, 232, 116, 214, 244, 234, 168, 80, 88, 175]
def lg (a : Nat) : Nat := logT.getD a 0
set_option maxRecDepth 100000 in
theorem chk_lgX : allB 255 (fun i => Nat.beq (lg (X i)) i) = true := by decide +kernel
set_option maxRecDepth 100000 in
theorem chk_Xlg : allB 256 (fun a => Nat.beq a 0 || (Nat.blt (lg a) 255 && Nat.beq (X (lg a)) a)) = true := by decide +kernel
theorem lg_X (i : Nat) (h : i < 255) : lg (X i) = i := Nat.eq_of_beq_eq_true (allB_at chk_lgX i h)
theorem X_lg (a : Nat) (h : a < 256) (h0 : a ≠ 0) : lg a < 255 ∧ X (lg a) = a := by
  have := allB_at chk_Xlg a h
  rw [Bool.or_eq_true, Bool.and_eq_true, Nat.blt_eq] at this
  rcases this with h1 | ⟨h1, h2⟩
  · exact absurd (Nat.eq_of_beq_eq_true h1) h0
  · exact ⟨h1, Nat.eq_of_beq_eq_true h2⟩
theorem X_inj {i j : Nat} (hi : i < 255) (hj : j < 255) (h : X i = X j) : i = j := by
  rw [← lg_X i hi, ← lg_X j hj, h]

/-- The product of two bytes is a byte. -/
theorem mulM_lt (a b : Nat) (ha : a < 256) (hb : b < 256) : mulM a b < 256 := by
  by_cases h1 : a = 0
  · rw [h1, mulM_zero_left b hb]; decide
  · by_cases h2 : b = 0
    · rw [h2, mulM_zero_right a ha]; decide
    · rw [← (X_lg a ha h1).2, ← (X_lg b hb h2).2, mul_XX]
      exact X_lt _
theorem mulM_lg (a b : Nat) (ha : a < 256) (hb : b < 256) (h1 : a ≠ 0) (h2 : b ≠ 0) : X (lg a + lg b) = mulM a b := by
  rw [← mul_XX, (X_lg a ha h1).2, (X_lg b hb h2).2]
/-- What the table exp holds at place j behind k rounds. -/
def eN (k j : Nat) : Nat := if j < k then X j else if 255 ≤ j ∧ j < 255 + k then X (j - 255) else 0
/-- What the table log holds at place j behind k rounds. -/
def lN : Nat → Nat → Nat
  | 0, _ => 0
  | k + 1, j => if j = X k then k else lN k j
theorem eN_full (j : Nat) (hj : j < 510) : eN 255 j = X j := by
  unfold eN
  by_cases h : j < 255
  · rw [if_pos h]
  · rw [if_neg h, if_pos (by omega)]
    have := X_add (j - 255)
    rw [Nat.sub_add_cancel (by omega)] at this
    exact this.symm
theorem eN_succ (k j : Nat) (hk : k < 255) : eN (k + 1) j = if j = k + 255 then X k else if j = k then X k else eN k j := by
  unfold eN
  by_cases h1 : j = k + 255
  · subst h1
    rw [if_neg (by omega), if_pos (by omega), if_pos rfl, Nat.add_sub_cancel]
  · rw [if_neg h1]
    by_cases h2 : j = k
    · subst h2
      rw [if_pos (by omega), if_pos rfl]
    · rw [if_neg h2]
      by_cases h3 : j < k
      · rw [if_pos (by omega), if_pos h3]
      · rw [if_neg (by omega), if_neg h3]
        by_cases h4 : 255 ≤ j ∧ j < 255 + k
        · rw [if_pos (by omega), if_pos h4]
        · rw [if_neg (by omega), if_neg h4]
theorem lN_X : ∀ n, n ≤ 255 → ∀ i, i < n → lN n (X i) = i
  | 0, _, i, hi => absurd hi (Nat.not_lt_zero i)
  | n + 1, hn, i, hi => by
    show (if X i = X n then n else lN n (X i)) = i
    by_cases e : i = n
    · subst e; rw [if_pos rfl]
    · rw [if_neg (fun h => e (X_inj (by omega) (by omega) h))]
      exact lN_X n (by omega) i (by omega)
theorem lN_full (a : Nat) (h : a < 256) (h0 : a ≠ 0) : lN 255 a = lg a := by
  obtain ⟨h1, h2⟩ := X_lg a h h0
  have := lN_X 255 (Nat.le_refl _) (lg a) h1
  rwa [h2] at this
theorem eN_lt (k j : Nat) : eN k j < 256 := by
  unfold eN
  split
  · exact X_lt _
  · split
    · exact X_lt _
    · decide
theorem lN_lt : ∀ k j, k ≤ 256 → lN k j < 256
  | 0, _, _ => by simp [lN]
  | k + 1, j, h => by
    unfold lN
    split
    · omega
    · exact lN_lt k j (by omega)
end Go.Proofs.Qxb6623484a.Fld
