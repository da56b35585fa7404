/-
  THE PLAIN LAW: share's answer against the exact quotient, by the seven roundings on its road.
-/
import Derived.Test.Qxb6603509aModsShare
namespace Go.Proofs.Qxb6603509aMods
open Go.RowKit

namespace Fl
theorem mle {x y z : Rat} (h : x ≤ y) (hz : 0 < z) : x * z ≤ y * z := Rat.mul_le_mul_of_nonneg_right h (Rat.le_of_lt hz)

/-- From above. -/
theorem chain_up {b m t l c B M T L Q E y q p a d U : Rat} (_b0 : 0 < b) (_m0 : 0 < m) (t0 : 0 < t) (_l0 : 0 < l) (c0 : 0 < c) (a0 : 0 < a) (d0 : 0 < d) (U0 : 0 < U)
    (B0 : 0 < B) (M0 : 0 < M) (_T0 : 0 < T) (L0 : 0 < L) (_Q0 : 0 < Q) (E0 : 0 < E) (_p0 : 0 < p) (hqE : q * E = B) (hpM : p * M = T)
    (h1 : c ≤ y) (h2 : y * U ≤ q * d) (h3 : Q * L * a ≤ E * U) (h4 : p * a ≤ Q * U) (h5 : t * a ≤ T * U) (h6 : l * a ≤ L * U) (h7 : M * U ≤ m * d) (h8 : B * U ≤ b * d) :
    c * (t * l) * (a * a * a * a) ≤ b * m * (d * d * d * U) := by
  subst hqE hpM
  have s1 : c * U ≤ q * d := Rat.le_trans (mle h1 U0) h2
  have s2 : c * U * E ≤ q * E * d := by have := mle s1 E0; grind
  have s3 : c * Q * L * a ≤ q * E * d := by have := mle h3 c0; grind
  have s4 : c * Q * L * a * U ≤ b * d * d := by have := mle s3 U0; have := mle h8 d0; grind
  have s5 : c * p * L * a * a ≤ b * d * d := by have := mle h4 (Rat.mul_pos (Rat.mul_pos c0 L0) a0); grind
  have s6 : c * (p * M) * L * a * a ≤ b * d * d * M := by have := mle s5 M0; grind
  have s7 : c * (p * M) * L * a * a * U ≤ b * m * d * d * d := by have := mle s6 U0; have := mle h7 (Rat.mul_pos (Rat.mul_pos _b0 d0) d0); grind
  have s8 : c * t * L * a * a * a * U ≤ b * m * d * d * d * U := by
    have := mle s7 U0
    have := mle h5 (Rat.mul_pos (Rat.mul_pos (Rat.mul_pos (Rat.mul_pos c0 L0) a0) a0) U0)
    grind
  have := mle h6 (Rat.mul_pos (Rat.mul_pos (Rat.mul_pos (Rat.mul_pos c0 t0) a0) a0) a0)
  grind

/-- From below. -/
theorem chain_dn {b m t l c B M T L Q E y q p a d U : Rat} (_b0 : 0 < b) (_m0 : 0 < m) (t0 : 0 < t) (_l0 : 0 < l) (c0 : 0 < c) (a0 : 0 < a) (d0 : 0 < d) (U0 : 0 < U)
    (B0 : 0 < B) (M0 : 0 < M) (_T0 : 0 < T) (L0 : 0 < L) (_Q0 : 0 < Q) (E0 : 0 < E) (_p0 : 0 < p) (hqE : q * E = B) (hpM : p * M = T)
    (h1 : y ≤ c) (h2 : q * a ≤ y * U) (h3 : E * U ≤ Q * L * d) (h4 : Q * U ≤ p * d) (h5 : T * U ≤ t * d) (h6 : L * U ≤ l * d) (h7 : m * a ≤ M * U) (h8 : b * a ≤ B * U) :
    b * m * (a * a * a * U) ≤ c * (t * l) * (d * d * d * d) := by
  subst hqE hpM
  have s1 : q * a ≤ c * U := Rat.le_trans h2 (mle h1 U0)
  have s2 : q * E * a ≤ c * U * E := by have := mle s1 E0; grind
  have s3 : q * E * a ≤ c * Q * L * d := by have := mle h3 c0; grind
  have s4 : b * a * a ≤ c * Q * L * d * U := by have := mle s3 U0; have := mle h8 a0; grind
  have s5 : b * a * a ≤ c * p * L * d * d := by have := mle h4 (Rat.mul_pos (Rat.mul_pos c0 L0) d0); grind
  have s6 : b * a * a * M ≤ c * (p * M) * L * d * d := by have := mle s5 M0; grind
  have s7 : b * m * a * a * a ≤ c * t * L * d * d * d := by
    have := mle s6 U0
    have := mle h7 (Rat.mul_pos (Rat.mul_pos _b0 a0) a0)
    have := mle h5 (Rat.mul_pos (Rat.mul_pos (Rat.mul_pos c0 L0) d0) d0)
    grind
  have s8 := mle s7 U0
  have := mle h6 (Rat.mul_pos (Rat.mul_pos (Rat.mul_pos (Rat.mul_pos c0 t0) d0) d0) d0)
  grind

theorem num_up (P N : Int) (n0 : 0 ≤ N) (h : P * (9007199254740991 * 9007199254740991 * 9007199254740991 * 9007199254740991) ≤ N * (9007199254740993 * 9007199254740993 * 9007199254740993 * 9007199254740992)) : P * 1125899906842624 ≤ N * 1125899906842625 := by
  omega
theorem num_dn (P N : Int) (n0 : 0 < N) (h : N * (9007199254740991 * 9007199254740991 * 9007199254740991 * 9007199254740992) ≤ P * (9007199254740993 * 9007199254740993 * 9007199254740993 * 9007199254740993)) : ¬ P * 1125899906842624 ≤ N * 1125899906842623 := by
  omega

theorem dm {x y : Rat} (hy : 0 < y) : x / y * y = x := Rat.div_mul_cancel (by intro h; rw [h] at hy; exact absurd hy (by decide))
theorem dpos {x y : Rat} (hx : 0 < x) (hy : 0 < y) : 0 < x / y := by
  rw [Rat.div_def]; exact Rat.mul_pos hx (Rat.inv_pos.2 hy)
theorem natPos {n : Int} (h : n ≠ 0) : (0 : Rat) < (n.natAbs : Rat) := Rat.natCast_pos.2 (by omega)

/-- THE SHARE AGAINST THE EXACT QUOTIENT. -/
theorem share_exact (b took made l : Int) (hb : 0 < b) (b1 : b ≤ 9223372036854775807) (ht : took ≠ 0) (hm : made ≠ 0) (hl : 1 ≤ l) {w : Nat} (N : NeedIs took made l w) (hs : (decide (took < 0) ^^ decide (made < 0)) = false) :
    ∃ k, shareB (fI b) w = some k ∧ ∀ c : Int, 2 ≤ c → c ≤ 200 →
      (c ≤ k → c * ((took.natAbs * l.natAbs : Nat) : Int) * 1125899906842624 ≤ ((b.natAbs * made.natAbs : Nat) : Int) * 1125899906842625) ∧
      (c * ((took.natAbs * l.natAbs : Nat) : Int) * 1125899906842624 ≤ ((b.natAbs * made.natAbs : Nat) : Int) * 1125899906842623 → c ≤ k) := by
  obtain ⟨k, h1, h2, h3, -, h5⟩ := share_nz b took made l hb b1 N
  refine ⟨k, h1, ?_⟩
  obtain ⟨n, i, m', e', -, nn, nm', RB, RY, K⟩ := h5 hs
  have b0 := natPos (n := b) (by omega)
  have m0 := natPos hm
  have t0 := natPos ht
  have l0 := natPos (n := l) (by omega)
  have B0 := RB.pos b0
  have M0 := N.pM
  have T0 := N.hT.pos t0
  have L0 := N.hL.pos l0
  have Q0 := N.hQ.pos (dpos T0 M0)
  have E0 := N.hN.pos (Rat.mul_pos Q0 L0)
  have p0 := dpos T0 M0
  have a0 : (0 : Rat) < 2 ^ 53 - 1 := by grind
  have d0 : (0 : Rat) < 2 ^ 53 + 1 := by grind
  have U0 : (0 : Rat) < 2 ^ 53 := by grind
  have cast : ∀ c : Int, ((c * ((took.natAbs * l.natAbs : Nat) : Int) : Int) : Rat) = (c : Rat) * ((took.natAbs : Rat) * (l.natAbs : Rat)) := by
    intro c; rw [Rat.intCast_mul, Rat.intCast_natCast, Rat.natCast_mul]
  have cast2 : ((((b.natAbs * made.natAbs : Nat) : Int) : Int) : Rat) = (b.natAbs : Rat) * (made.natAbs : Rat) := by
    rw [Rat.intCast_natCast, Rat.natCast_mul]
  have npos : (0 : Int) < ((b.natAbs * made.natAbs : Nat) : Int) := by
    have : 0 < b.natAbs * made.natAbs := Nat.mul_pos (by omega) (by omega)
    omega
  intro c c2 c200
  have c0 : (0 : Rat) < (c : Rat) := by
    have := Rat.intCast_lt_intCast.2 (show (0 : Int) < c by omega)
    exact this
  have lit1 : ((2 : Rat) ^ 53 - 1) * (2 ^ 53 - 1) * (2 ^ 53 - 1) * (2 ^ 53 - 1) = ((9007199254740991 * 9007199254740991 * 9007199254740991 * 9007199254740991 : Int) : Rat) := by decide +kernel
  have lit2 : ((2 : Rat) ^ 53 + 1) * (2 ^ 53 + 1) * (2 ^ 53 + 1) * 2 ^ 53 = ((9007199254740993 * 9007199254740993 * 9007199254740993 * 9007199254740992 : Int) : Rat) := by decide +kernel
  have lit3 : ((2 : Rat) ^ 53 - 1) * (2 ^ 53 - 1) * (2 ^ 53 - 1) * 2 ^ 53 = ((9007199254740991 * 9007199254740991 * 9007199254740991 * 9007199254740992 : Int) : Rat) := by decide +kernel
  have lit4 : ((2 : Rat) ^ 53 + 1) * (2 ^ 53 + 1) * (2 ^ 53 + 1) * (2 ^ 53 + 1) = ((9007199254740993 * 9007199254740993 * 9007199254740993 * 9007199254740993 : Int) : Rat) := by decide +kernel
  constructor
  · intro hc
    have hy := (K c c2 c200).1 hc
    have := chain_up b0 m0 t0 l0 c0 a0 d0 U0 B0 M0 T0 L0 Q0 E0 p0 (dm E0) (dm M0) hy RY.hi N.hN.lo N.hQ.lo N.hT.lo N.hL.lo N.hM.hi RB.hi
    rw [← cast, ← cast2, lit1, lit2, ← Rat.intCast_mul, ← Rat.intCast_mul, Rat.intCast_le_intCast] at this
    exact num_up _ _ (by omega) this
  · intro hc
    apply Decidable.byContradiction
    intro hk
    have hy : val m' e' ≤ (c : Rat) := by
      have := fun h => hk ((K c c2 c200).2 h)
      exact Rat.le_of_lt (Rat.not_le.1 this)
    have := chain_dn b0 m0 t0 l0 c0 a0 d0 U0 B0 M0 T0 L0 Q0 E0 p0 (dm E0) (dm M0) hy RY.lo N.hN.hi N.hQ.hi N.hT.hi N.hL.hi N.hM.lo RB.lo
    rw [← cast, ← cast2, lit3, lit4, ← Rat.intCast_mul, ← Rat.intCast_mul, Rat.intCast_le_intCast] at this
    exact num_dn _ _ npos this hc
end Fl

/-- took is 0. -/
theorem share_took0 (b l m : Int) (hb : 0 < b) (b1 : b ≤ 9223372036854775807) (hm : m ≠ 0) (hM : I64 m) (hL : I64 l) : shareVal b l m 0 = if m < 0 then 1 else 200 := by
  obtain ⟨nd, g1, g2⟩ := Fl.need_zero m (lm l) hm hM.1 hM.2 (lm_ge l) (lm_le l hL.2)
  have e1 := Fl.share_zero b hb b1 g2
  have hc : ¬ b ≤ 0 := by omega
  unfold shareVal
  rw [if_neg hc, if_neg hm, g1, Option.bind_some, e1, Option.getD_some]
  simp
/-- The signs differ. -/
theorem share_signs (b l m t : Int) (hb : 0 < b) (b1 : b ≤ 9223372036854775807) (hm : m ≠ 0) (ht : t ≠ 0) (hM : I64 m) (hT : I64 t) (hL : I64 l) (hs : (decide (t < 0) ^^ decide (m < 0)) = true) : shareVal b l m t = 1 := by
  obtain ⟨nd, g1, ⟨N⟩⟩ := Fl.need_nz t m (lm l) ht hT.1 hT.2 hm hM.1 hM.2 (lm_ge l) (lm_le l hL.2)
  obtain ⟨k, h1, h2, h3, h4, -⟩ := Fl.share_nz b t m (lm l) hb b1 N
  have hc : ¬ b ≤ 0 := by omega
  unfold shareVal
  rw [if_neg hc, if_neg hm, g1, Option.bind_some, h1, Option.getD_some]
  exact h4 hs
/-- The signs agree. -/
theorem share_mid (b l m t : Int) (hb : 0 < b) (b1 : b ≤ 9223372036854775807) (hm : m ≠ 0) (ht : t ≠ 0) (hM : I64 m) (hT : I64 t) (hL : I64 l) (hs : (decide (t < 0) ^^ decide (m < 0)) = false) :
    ∀ c : Int, 2 ≤ c → c ≤ 200 →
      (c ≤ shareVal b l m t → c * ((t.natAbs * (lm l).natAbs : Nat) : Int) * 1125899906842624 ≤ ((b.natAbs * m.natAbs : Nat) : Int) * 1125899906842625) ∧
      (c * ((t.natAbs * (lm l).natAbs : Nat) : Int) * 1125899906842624 ≤ ((b.natAbs * m.natAbs : Nat) : Int) * 1125899906842623 → c ≤ shareVal b l m t) := by
  obtain ⟨nd, g1, ⟨N⟩⟩ := Fl.need_nz t m (lm l) ht hT.1 hT.2 hm hM.1 hM.2 (lm_ge l) (lm_le l hL.2)
  obtain ⟨k, h1, h2⟩ := Fl.share_exact b t m (lm l) hb b1 ht hm (lm_ge l) N hs
  have hc : ¬ b ≤ 0 := by omega
  have e : shareVal b l m t = k := by
    unfold shareVal
    rw [if_neg hc, if_neg hm, g1, Option.bind_some, h1, Option.getD_some]
  rw [e]; exact h2
end Go.Proofs.Qxb6603509aMods
