/-
  THE PLAIN LAW OF A SCRIPT OF PUTS: which step's row a seq holds, how many rows are held, how many bytes they count. No Go but the three small functions of put's contract.
-/
import Derived.Test.Qxb6603509aModsPut3
namespace Go.Proofs.Qxb6603509aMods

section
variable (seq : Nat → Int) (drop : Nat → Bool)

/-- What step k puts. -/
def puts (k : Nat) : Option Nat := if drop k then none else some k
/-- The step whose row seq s holds behind k puts. -/
def lastOf : Nat → Int → Option Nat
  | 0, _ => none
  | k + 1, s => if seq k = s then puts drop k else lastOf k s
/-- How many rows are held behind k puts. -/
def heldN : Nat → Nat
  | 0 => 0
  | k + 1 => cntP (lastOf seq drop k (seq k)) (puts drop k) (heldN k)
/-- What they count, by the step's weight g. -/
def heldW (g : Nat → Int) : Nat → Int
  | 0 => 0
  | k + 1 => heldW g k - osz g (lastOf seq drop k (seq k)) + osz g (puts drop k)
/-- The weights of the steps below m that are held behind k puts. -/
def sumL (g : Nat → Int) (k : Nat) : Nat → Int
  | 0 => 0
  | m + 1 => sumL g k m + if lastOf seq drop k (seq m) = some m then g m else 0

variable {seq drop}
theorem puts_some {k i : Nat} (h : puts drop k = some i) : i = k ∧ drop k = false := by
  unfold puts at h
  cases hd : drop k
  · rw [hd] at h; simp at h; exact ⟨h.symm, rfl⟩
  · rw [hd] at h; simp at h
theorem last_some : ∀ {k : Nat} {s : Int} {i : Nat}, lastOf seq drop k s = some i → i < k ∧ seq i = s ∧ drop i = false
  | 0, _, _, h => by cases h
  | k + 1, s, i, h => by
    unfold lastOf at h
    split at h
    · rename_i e
      obtain ⟨h1, h2⟩ := puts_some h
      subst h1; exact ⟨by omega, e, h2⟩
    · obtain ⟨h1, h2, h3⟩ := last_some h
      exact ⟨by omega, h2, h3⟩
/-- A later step at the same seq takes the place. -/
theorem last_later : ∀ {n i j : Nat}, i < j → j < n → seq j = seq i → lastOf seq drop n (seq i) ≠ some i
  | 0, _, _, _, hj, _ => by omega
  | n + 1, i, j, hij, hj, e => by
    intro h
    unfold lastOf at h
    split at h
    · obtain ⟨h1, _⟩ := puts_some h
      omega
    · rename_i hne
      have : j ≠ n := fun e' => hne (by rw [← e', e])
      exact last_later hij (by omega) e h
theorem last_is : ∀ {n i : Nat}, i < n → (∀ j, i < j → j < n → seq j ≠ seq i) → lastOf seq drop n (seq i) = puts drop i
  | 0, _, h, _ => by omega
  | n + 1, i, h, hno => by
    unfold lastOf
    by_cases e : i = n
    · subst e; rw [if_pos rfl]
    · rw [if_neg (hno n (by omega) (by omega))]
      exact last_is (by omega) (fun j h1 h2 => hno j h1 (by omega))

theorem sum_step (g : Nat → Int) (k : Nat) : ∀ m, m ≤ k → sumL seq drop g (k + 1) m = sumL seq drop g k m - (match lastOf seq drop k (seq k) with | none => 0 | some i => if i < m then g i else 0)
  | 0, _ => by
    cases h : lastOf seq drop k (seq k) <;> simp [sumL]
  | m + 1, hm => by
    have ih := sum_step g k m (by omega)
    have t1 : lastOf seq drop (k + 1) (seq m) = if seq k = seq m then puts drop k else lastOf seq drop k (seq m) := rfl
    show sumL seq drop g (k + 1) m + _ = sumL seq drop g k m + _ - _
    rw [ih, t1]
    by_cases e : seq k = seq m
    · have hne : puts drop k ≠ some m := fun h => by have := (puts_some h).1; omega
      rw [if_pos e, if_neg hne, e]
      cases h : lastOf seq drop k (seq m) with
      | none => simp
      | some i =>
        by_cases him : i = m
        · subst him; simp
        · have h1 : ¬ some i = some m := by simpa using him
          rw [if_neg h1]
          by_cases hl : i < m
          · simp [hl, show i < m + 1 by omega]
          · simp [hl, show ¬ i < m + 1 by omega]
    · rw [if_neg e]
      cases h : lastOf seq drop k (seq k) with
      | none => simp
      | some i =>
        obtain ⟨_, h2, _⟩ := last_some h
        have him : i ≠ m := fun e' => e (by rw [← h2, e'])
        by_cases hl : i < m
        · simp [hl, show i < m + 1 by omega]; omega
        · simp [hl, show ¬ i < m + 1 by omega]

/-- What is counted is what is held. -/
theorem held_sum (g : Nat → Int) : ∀ k, heldW seq drop g k = sumL seq drop g k k
  | 0 => rfl
  | k + 1 => by
    have ih := held_sum g k
    have hs := sum_step (seq := seq) (drop := drop) g k k (Nat.le_refl _)
    have t1 : lastOf seq drop (k + 1) (seq k) = puts drop k := by show (if seq k = seq k then puts drop k else _) = _; rw [if_pos rfl]
    show heldW seq drop g k - osz g (lastOf seq drop k (seq k)) + osz g (puts drop k) = sumL seq drop g (k + 1) k + (if lastOf seq drop (k + 1) (seq k) = some k then g k else 0)
    rw [hs, t1, ih]
    have e1 : osz g (lastOf seq drop k (seq k)) = (match lastOf seq drop k (seq k) with | none => 0 | some i => if i < k then g i else 0) := by
      cases h : lastOf seq drop k (seq k) with
      | none => rfl
      | some i => simp [osz, (last_some h).1]
    have e2 : osz g (puts drop k) = (if puts drop k = some k then g k else 0) := by
      unfold puts; cases drop k <;> simp [osz]
    rw [e1, e2]

/-- Each step weighs one. -/
def one (_ : Nat) : Int := 1
theorem sum_one (k : Nat) : ∀ m, 0 ≤ sumL seq drop one k m ∧ ∀ i, i < m → lastOf seq drop k (seq i) = some i → 0 < sumL seq drop one k m
  | 0 => ⟨Int.le_refl 0, fun i hi => by omega⟩
  | m + 1 => by
    obtain ⟨h0, h1⟩ := sum_one k m
    have e : sumL seq drop one k (m + 1) = sumL seq drop one k m + if lastOf seq drop k (seq m) = some m then 1 else 0 := rfl
    rw [e]
    refine ⟨by split <;> omega, fun i hi hl => ?_⟩
    by_cases him : i = m
    · subst him; rw [if_pos hl]; omega
    · have := h1 i (by omega) hl
      split <;> omega

theorem held_count : ∀ k, (heldN seq drop k : Int) = heldW seq drop one k
  | 0 => rfl
  | k + 1 => by
    have ih := held_count k
    have hN : heldN seq drop (k + 1) = cntP (lastOf seq drop k (seq k)) (puts drop k) (heldN seq drop k) := rfl
    have hW : heldW seq drop one (k + 1) = heldW seq drop one k - osz one (lastOf seq drop k (seq k)) + osz one (puts drop k) := rfl
    rw [hN, hW, ← ih]
    cases h1 : lastOf seq drop k (seq k) with
    | none => cases h2 : puts drop k <;> simp [cntP, osz, one]
    | some i =>
      obtain ⟨hi, hsi, _⟩ := last_some h1
      have hp : 0 < heldN seq drop k := by
        have := (sum_one (seq := seq) (drop := drop) k k).2 i hi (by rw [hsi]; exact h1)
        rw [← held_sum, ← ih] at this
        omega
      cases h2 : puts drop k <;> simp [cntP, osz, one] <;> omega

theorem sum_range (g : Nat → Int) (B : Int) (hg : ∀ i, 0 ≤ g i ∧ g i ≤ B) (k : Nat) : ∀ m : Nat, 0 ≤ sumL seq drop g k m ∧ sumL seq drop g k m ≤ B * m
  | 0 => by simp [sumL]
  | m + 1 => by
    obtain ⟨h1, h2⟩ := sum_range g B hg k m
    obtain ⟨g0, g1⟩ := hg m
    have e : B * ((m + 1 : Nat) : Int) = B * m + B := by
      rw [show ((m + 1 : Nat) : Int) = (m : Int) + 1 from by omega, Int.mul_add, Int.mul_one]
    rw [e]
    show 0 ≤ sumL seq drop g k m + _ ∧ sumL seq drop g k m + _ ≤ _
    split <;> omega
end
end Go.Proofs.Qxb6603509aMods
