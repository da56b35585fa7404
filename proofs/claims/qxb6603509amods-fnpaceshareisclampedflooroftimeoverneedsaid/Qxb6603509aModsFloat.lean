/-
  THE PLAIN MATHEMATICS OF THE FLOATS ON THE ROAD OF 'share': rounding of an int, of a product and of a quotient over the model's own Ieee functions, told over Rat. No Go in sight.
-/
import Ieee.Arith
namespace Go.Proofs.Qxb6603509aMods.Fl
open Ieee

/-- The number m * 2^e. -/
def val (m : Nat) (e : Int) : Rat := (m : Rat) * (2 : Rat) ^ e

theorem two_ne : (2 : Rat) ≠ 0 := by decide
theorem tp_pos (e : Int) : (0 : Rat) < (2 : Rat) ^ e := Rat.zpow_pos (by decide)
theorem tp_add (a b : Int) : (2 : Rat) ^ (a + b) = (2 : Rat) ^ a * (2 : Rat) ^ b := Rat.zpow_add two_ne a b
theorem tp_nat (n : Nat) : (2 : Rat) ^ (n : Int) = ((2 ^ n : Nat) : Rat) := by
  rw [Rat.zpow_natCast, Rat.natCast_pow]; rfl
theorem val_shift (m k : Nat) (e : Int) : val (m * 2 ^ k) e = val m (e + k) := by
  unfold val
  rw [tp_add, tp_nat, Rat.natCast_mul]
  grind
theorem val_pos (m : Nat) (e : Int) (h : 0 < m) : 0 < val m e := Rat.mul_pos (Rat.natCast_pos.2 h) (tp_pos e)
theorem val_lt (m n : Nat) (e : Int) : val m e < val n e ↔ m < n := by
  unfold val
  rw [Rat.mul_lt_mul_right (tp_pos e), Rat.natCast_lt_natCast]
theorem val_le (m n : Nat) (e : Int) : val m e ≤ val n e ↔ m ≤ n := by
  rw [← Rat.not_lt, val_lt, Nat.not_lt]

/-- A normal significand. -/
def Nm (m : Nat) : Prop := 2 ^ 52 ≤ m ∧ m < 2 ^ 53

/-- y is a nearest float to x: no float lies nearer; and y is within x * 2^-53 of x. -/
structure Rnd (x y : Rat) : Prop where
  up : ∀ m e, Nm m → val m e < y → val m e + y ≤ 2 * x
  dn : ∀ m e, Nm m → y < val m e → 2 * x ≤ y + val m e
  lo : x * (2 ^ 53 - 1) ≤ y * 2 ^ 53
  hi : y * 2 ^ 53 ≤ x * (2 ^ 53 + 1)

/-- Rounding does not turn the order round. -/
theorem Rnd.mono {x₁ x₂ : Rat} {m₁ m₂ : Nat} {e₁ e₂ : Int} (h₁ : Rnd x₁ (val m₁ e₁)) (h₂ : Rnd x₂ (val m₂ e₂)) (n₁ : Nm m₁) (n₂ : Nm m₂) (h : x₁ < x₂) : val m₁ e₁ ≤ val m₂ e₂ := by
  rw [← Rat.not_lt]
  intro hc
  have a := h₁.up m₂ e₂ n₂ hc
  have b := h₂.dn m₁ e₁ n₁ hc
  grind

/-- THE CORE: k units of g = 2^e, within half a unit of x, x within the binade. -/
theorem rnd_core (x : Rat) (k : Nat) (e : Int) (h0 : 2 ^ 52 ≤ k) (hx0 : (2 ^ 52 : Nat) * (2 : Rat) ^ e ≤ x) 
    (ha : 2 * x ≤ (2 * k + 1) * (2 : Rat) ^ e) (hb : (2 * k - 1) * (2 : Rat) ^ e ≤ 2 * x) : Rnd x (val k e) := by
  have hg := tp_pos e
  have key : ∀ m e', Nm m → (∃ j : Nat, val m e' = (j : Rat) * (2 : Rat) ^ e) ∨ val m e' ≤ (2 ^ 52 : Nat) * (2 : Rat) ^ e := by
    intro m e' hm
    by_cases he : e ≤ e'
    · left
      obtain ⟨d, hd⟩ := Int.eq_ofNat_of_zero_le (Int.sub_nonneg.2 he)
      refine ⟨m * 2 ^ d, ?_⟩
      have := val_shift m d e
      rw [show e + (d : Int) = e' by omega] at this
      rw [← this]; rfl
    · right
      obtain ⟨d, hd⟩ := Int.eq_ofNat_of_zero_le (show 0 ≤ e - e' - 1 by omega)
      have h := val_shift (2 ^ 52) (d + 1) e'
      rw [show e' + ((d + 1 : Nat) : Int) = e by omega] at h
      show val m e' ≤ val (2 ^ 52) e
      rw [← h, val_le]
      have : 2 ^ 53 ≤ 2 ^ 52 * 2 ^ (d + 1) := by
        rw [← Nat.pow_add]; exact Nat.pow_le_pow_right (by decide) (by omega)
      exact Nat.le_of_lt (Nat.lt_of_lt_of_le hm.2 this)
  have hy : val k e = (k : Rat) * (2 : Rat) ^ e := rfl
  have k0 : ((2 ^ 52 : Nat) : Rat) ≤ (k : Rat) := Rat.natCast_le_natCast.2 h0
  refine ⟨?_, ?_, ?_, ?_⟩
  · intro m e' hm hz
    rcases key m e' hm with ⟨j, hj⟩ | hle
    · rw [hj] at hz ⊢
      rw [hy] at hz ⊢
      have hjk : j < k := Rat.natCast_lt_natCast.1 ((Rat.mul_lt_mul_right hg).1 hz)
      have hjk' : (j : Rat) + 1 ≤ (k : Rat) := by
        have := Rat.natCast_le_natCast.2 (Nat.succ_le_of_lt hjk)
        rw [Nat.succ_eq_add_one, Rat.natCast_add] at this
        exact this
      have := Rat.mul_le_mul_of_nonneg_right hjk' (Rat.le_of_lt hg)
      grind
    · rw [hy]
      by_cases hk : k = 2 ^ 52
      · rw [hk]; grind
      · have hk1 : ((2 ^ 52 : Nat) : Rat) + 1 ≤ (k : Rat) := by
          have := Rat.natCast_le_natCast.2 (show 2 ^ 52 + 1 ≤ k by omega)
          rw [Rat.natCast_add] at this
          exact this
        have := Rat.mul_le_mul_of_nonneg_right hk1 (Rat.le_of_lt hg)
        grind
  · intro m e' hm hz
    rcases key m e' hm with ⟨j, hj⟩ | hle
    · rw [hj] at hz ⊢
      rw [hy] at hz ⊢
      have hjk : k < j := Rat.natCast_lt_natCast.1 ((Rat.mul_lt_mul_right hg).1 hz)
      have hjk' : (k : Rat) + 1 ≤ (j : Rat) := by
        have := Rat.natCast_le_natCast.2 (Nat.succ_le_of_lt hjk)
        rw [Nat.succ_eq_add_one, Rat.natCast_add] at this
        exact this
      have := Rat.mul_le_mul_of_nonneg_right hjk' (Rat.le_of_lt hg)
      grind
    · exfalso
      rw [hy] at hz
      have := Rat.mul_le_mul_of_nonneg_right k0 (Rat.le_of_lt hg)
      grind
  · rw [hy]; grind
  · rw [hy]; grind

/-- To the nearest, ties to even, cut off 'drop' digits: what it comes to. -/
theorem cut_even (neg : Bool) (n drop : Nat) (h : drop ≤ n.log2 + 2) : 2 * (Toward.even.cut neg n drop * 2 ^ drop) ≤ 2 * n + 2 ^ drop ∧ 2 * n ≤ 2 * (Toward.even.cut neg n drop * 2 ^ drop) + 2 ^ drop := by
  unfold Toward.cut
  have hmin : min drop (n.log2 + 2) = drop := by omega
  simp only [hmin, Nat.one_shiftLeft]
  have hp : 0 < 2 ^ drop := Nat.two_pow_pos _
  generalize 2 ^ drop = g at *
  have hd := Nat.div_add_mod n g
  have hm := Nat.mod_lt n hp
  generalize n / g = q at *
  generalize n % g = r at *
  rw [Nat.add_mul]
  rw [Nat.mul_comm g q] at hd
  generalize q * g = qg at *
  by_cases c : (decide (g < 2 * r) || g == 2 * r && q % 2 == 1) = true
  · rw [c]
    have : g ≤ 2 * r := by simp at c; omega
    simp
    omega
  · have c' : (decide (g < 2 * r) || g == 2 * r && q % 2 == 1) = false := by simpa using c
    rw [c']
    have : 2 * r ≤ g := by simp at c; omega
    simp
    omega

theorem read_word (neg : Bool) (kept : Nat) (last : Int) (h0 : 2 ^ 52 ≤ kept) (h1 : kept ≤ 2 ^ 53) (l0 : -1074 ≤ last) (l1 : last ≤ 900) :
    ∃ m e, double.read (double.word neg ((last + 1074).toNat * 2 ^ 52 + kept)) = .number neg m e ∧ Nm m ∧ val m e = val kept last ∧ last ≤ e ∧ e ≤ last + 1 := by
  have b1 : double.binade = 4503599627370496 := by decide
  have b2 : double.infRung = 9218868437227405312 := by decide
  have b3 : double.signWeight = 9223372036854775808 := by decide
  have b4 : double.leastPlace = -1074 := by decide
  obtain ⟨a, ha⟩ := Int.eq_ofNat_of_zero_le (show 0 ≤ last + 1074 by omega)
  have hl : last = (a : Int) - 1074 := by omega
  subst hl
  have e1 : ((a : Int) - 1074 + 1074).toNat = a := by omega
  rw [e1]
  have r1 : (double.word neg (a * 2 ^ 52 + kept)) / 9223372036854775808 % 2 = if neg then 1 else 0 := by
    unfold Format.word; rw [b3]; cases neg <;> simp <;> omega
  have r2 : (double.word neg (a * 2 ^ 52 + kept)) % 9223372036854775808 = a * 2 ^ 52 + kept := by
    unfold Format.word; rw [b3]; cases neg <;> simp <;> omega
  unfold Format.read
  rw [b1, b2, b3, b4]
  simp only [r1, r2]
  rw [if_neg (by omega), if_pos (by omega)]
  have en : ((if neg then 1 else 0 : Nat) == 1) = neg := by cases neg <;> rfl
  rw [en]
  by_cases hk : kept = 2 ^ 53
  · subst hk
    refine ⟨2 ^ 52, (a : Int) - 1074 + 1, ?_, ⟨by omega, by omega⟩, ?_, by omega, by omega⟩
    · have q1 : (a * 2 ^ 52 + 2 ^ 53) % 4503599627370496 = 0 := by omega
      have q2 : (a * 2 ^ 52 + 2 ^ 53) / 4503599627370496 = a + 2 := by omega
      have q3 : (-1074 : Int) + ((a + 2 - 1 : Nat) : Int) = (a : Int) - 1074 + 1 := by omega
      rw [q1, q2, q3]
    · have := val_shift (2 ^ 52) 1 ((a : Int) - 1074)
      rw [show (2 ^ 52 * 2 ^ 1 : Nat) = 2 ^ 53 from by decide] at this
      rw [this]; rfl
  · refine ⟨kept, (a : Int) - 1074, ?_, ⟨h0, by omega⟩, rfl, by omega, by omega⟩
    have q1 : (a * 2 ^ 52 + kept) % 4503599627370496 = kept - 4503599627370496 := by omega
    have q2 : (a * 2 ^ 52 + kept) / 4503599627370496 = a + 1 := by omega
    rw [q1, q2]
    have q3 : 4503599627370496 + (kept - 4503599627370496) = kept := by omega
    have q4 : (-1074 : Int) + ((a + 1 - 1 : Nat) : Int) = (a : Int) - 1074 := by omega
    rw [q3, q4]

/-- A number in the normal range, rounded. -/
theorem nearest_read (neg : Bool) (mag : Nat) (place : Int) (hm : 0 < mag) (l0 : -1000 ≤ place + mag.log2) (l1 : place + mag.log2 ≤ 900) :
    ∃ k m e, double.read (double.nearest neg mag place) = .number neg m e ∧ Nm m ∧ val m e = val k (place + mag.log2 - 52) ∧ place + mag.log2 - 52 ≤ e ∧ e ≤ place + mag.log2 - 51 ∧ 2 ^ 52 ≤ k ∧ k ≤ 2 ^ 53
      ∧ (mag.log2 ≤ 52 → k = mag * 2 ^ (52 - mag.log2))
      ∧ (52 ≤ mag.log2 → 2 * (k * 2 ^ (mag.log2 - 52)) ≤ 2 * mag + 2 ^ (mag.log2 - 52) ∧ 2 * mag ≤ 2 * (k * 2 ^ (mag.log2 - 52)) + 2 ^ (mag.log2 - 52)) := by
  have b1 : double.binade = 2 ^ 52 := by decide
  have b2 : double.infRung = 9218868437227405312 := by decide
  have b4 : double.leastPlace = -1074 := by decide
  have b5 : (double.fractionBits : Int) = 52 := by decide
  have hlo := Nat.log2_self_le (n := mag) (by omega)
  have hhi := Nat.lt_log2_self (n := mag)
  unfold Format.nearest
  rw [if_neg (by omega), b1, b2, b4, b5]
  have hmax : max (place + (mag.log2 : Int) - 52) (-1074) = place + mag.log2 - 52 := by omega
  simp only [hmax]
  by_cases c : mag.log2 ≤ 52
  · have s1 : (place - (place + (mag.log2 : Int) - 52)).toNat = 52 - mag.log2 := by omega
    have s2 : (place + (mag.log2 : Int) - 52 - place).toNat = 0 := by omega
    rw [s1, s2]
    have s3 : Toward.even.cut neg (mag <<< (52 - mag.log2)) 0 = mag <<< (52 - mag.log2) := by
      unfold Toward.cut; simp [Nat.mod_one]
    rw [s3, Nat.shiftLeft_eq]
    have k0 : 2 ^ 52 ≤ mag * 2 ^ (52 - mag.log2) := by
      calc 2 ^ 52 = 2 ^ mag.log2 * 2 ^ (52 - mag.log2) := by rw [← Nat.pow_add]; congr 1; omega
        _ ≤ _ := Nat.mul_le_mul_right _ hlo
    have k1 : mag * 2 ^ (52 - mag.log2) ≤ 2 ^ 53 := by
      calc mag * 2 ^ (52 - mag.log2) ≤ 2 ^ (mag.log2 + 1) * 2 ^ (52 - mag.log2) := Nat.mul_le_mul_right _ (Nat.le_of_lt hhi)
        _ = 2 ^ 53 := by rw [← Nat.pow_add]; congr 1; omega
    have hmin : min ((place + (mag.log2 : Int) - 52 - -1074).toNat * 2 ^ 52 + mag * 2 ^ (52 - mag.log2)) 9218868437227405312 = (place + (mag.log2 : Int) - 52 - -1074).toNat * 2 ^ 52 + mag * 2 ^ (52 - mag.log2) := by
      apply Nat.min_eq_left; omega
    rw [hmin]
    obtain ⟨m, e, h1, h2, h3, h4, h5⟩ := read_word neg (mag * 2 ^ (52 - mag.log2)) (place + mag.log2 - 52) k0 k1 (by omega) (by omega)
    refine ⟨mag * 2 ^ (52 - mag.log2), m, e, h1, h2, h3, h4, by omega, k0, k1, fun _ => rfl, fun h => ?_⟩
    have : mag.log2 = 52 := by omega
    rw [this]; simp
  · have s1 : (place - (place + (mag.log2 : Int) - 52)).toNat = 0 := by omega
    have s2 : (place + (mag.log2 : Int) - 52 - place).toNat = mag.log2 - 52 := by omega
    rw [s1, s2, Nat.shiftLeft_zero]
    obtain ⟨c1, c2⟩ := cut_even neg mag (mag.log2 - 52) (by omega)
    generalize Toward.even.cut neg mag (mag.log2 - 52) = k at *
    have g1 : 2 ^ mag.log2 = 2 ^ 52 * 2 ^ (mag.log2 - 52) := by rw [← Nat.pow_add]; congr 1; omega
    have g2 : 2 ^ (mag.log2 + 1) = 2 ^ 53 * 2 ^ (mag.log2 - 52) := by rw [← Nat.pow_add]; congr 1; omega
    rw [g1] at hlo
    rw [g2] at hhi
    have hp : 0 < 2 ^ (mag.log2 - 52) := Nat.two_pow_pos _
    have k0 : 2 ^ 52 ≤ k := by
      apply Nat.le_of_not_lt; intro hlt
      have := Nat.mul_le_mul_right (2 ^ (mag.log2 - 52)) (Nat.succ_le_of_lt hlt)
      rw [Nat.succ_mul] at this
      omega
    have k1 : k ≤ 2 ^ 53 := by
      apply Nat.le_of_not_lt; intro hlt
      have := Nat.mul_le_mul_right (2 ^ (mag.log2 - 52)) (Nat.succ_le_of_lt hlt)
      rw [Nat.succ_mul] at this
      omega
    have hmin : min ((place + (mag.log2 : Int) - 52 - -1074).toNat * 2 ^ 52 + k) 9218868437227405312 = (place + (mag.log2 : Int) - 52 - -1074).toNat * 2 ^ 52 + k := by
      apply Nat.min_eq_left; omega
    rw [hmin]
    obtain ⟨m, e, h1, h2, h3, h4, h5⟩ := read_word neg k (place + mag.log2 - 52) k0 k1 (by omega) (by omega)
    exact ⟨k, m, e, h1, h2, h3, h4, by omega, k0, k1, fun h => absurd h c, fun _ => ⟨c1, c2⟩⟩

theorem log2_nm {m : Nat} (h : Nm m) : m.log2 = 52 := by
  obtain ⟨h0, h1⟩ := h
  exact (Nat.log2_eq_iff (by omega)).2 ⟨h0, h1⟩

theorem cast_le {a b : Nat} (h : a ≤ b) : (a : Rat) ≤ (b : Rat) := Rat.natCast_le_natCast.2 h

/-- A positive number in the normal range: the word of it reads as its rounding. -/
theorem nearest_rnd (neg : Bool) (mag : Nat) (place : Int) (hm : 0 < mag) (l0 : -1000 ≤ place + mag.log2) (l1 : place + mag.log2 ≤ 900) :
    ∃ m e, double.read (double.nearest neg mag place) = .number neg m e ∧ Nm m ∧ Rnd (val mag place) (val m e) ∧ place + mag.log2 - 52 ≤ e ∧ e ≤ place + mag.log2 - 51 := by
  obtain ⟨k, m, e, h1, h2, h3, h4, h5, k0, k1, ca, cb⟩ := nearest_read neg mag place hm l0 l1
  refine ⟨m, e, h1, h2, ?_, h4, h5⟩
  rw [h3]
  by_cases c : mag.log2 ≤ 52
  · have hk := ca c
    have hx : val mag place = (k : Rat) * (2 : Rat) ^ (place + mag.log2 - 52) := by
      have := val_shift mag (52 - mag.log2) (place + mag.log2 - 52)
      rw [← hk, show place + (mag.log2 : Int) - 52 + ((52 - mag.log2 : Nat) : Int) = place by omega] at this
      rw [← this]; rfl
    have hg := tp_pos (place + mag.log2 - 52)
    have kk := cast_le k0
    have := Rat.mul_le_mul_of_nonneg_right kk (Rat.le_of_lt hg)
    apply rnd_core _ _ _ k0
    · rw [hx]; exact this
    · rw [hx]; grind
    · rw [hx]; grind
  · obtain ⟨c1, c2⟩ := cb (by omega)
    have hlo := Nat.log2_self_le (n := mag) (by omega)
    have g1 : 2 ^ mag.log2 = 2 ^ 52 * 2 ^ (mag.log2 - 52) := by rw [← Nat.pow_add]; congr 1; omega
    rw [g1] at hlo
    have hg := tp_pos place
    have he : (2 : Rat) ^ (place + mag.log2 - 52) = ((2 ^ (mag.log2 - 52) : Nat) : Rat) * (2 : Rat) ^ place := by
      rw [← tp_nat, ← tp_add]; congr 1; omega
    have d0 := Rat.mul_le_mul_of_nonneg_right (cast_le hlo) (Rat.le_of_lt hg)
    have d1 := Rat.mul_le_mul_of_nonneg_right (cast_le c1) (Rat.le_of_lt hg)
    have d2 := Rat.mul_le_mul_of_nonneg_right (cast_le c2) (Rat.le_of_lt hg)
    have hx : val mag place = (mag : Rat) * (2 : Rat) ^ place := rfl
    rw [Rat.natCast_mul] at d0
    rw [Rat.natCast_add, Rat.natCast_mul, Rat.natCast_mul, Rat.natCast_mul] at d1 d2
    generalize ((2 ^ (mag.log2 - 52) : Nat) : Rat) = g at *
    apply rnd_core _ _ _ k0
    · rw [hx, he]; grind
    · rw [hx, he]; grind
    · rw [hx, he]; grind

theorem val_mul (m n : Nat) (i j : Int) : val (m * n) (i + j) = val m i * val n j := by
  unfold val; rw [tp_add, Rat.natCast_mul]; grind

/-- The product of two normal numbers. -/
theorem mul_rnd {x y : Nat} {s t : Bool} {m n : Nat} {i j : Int} (hx : double.read x = .number s m i) (hy : double.read y = .number t n j) (nm : Nm m) (nn : Nm n) (l0 : -1050 ≤ i + j) (l1 : i + j ≤ 700) :
    ∃ r m' e', double.mul x y = some r ∧ double.read r = .number (s ^^ t) m' e' ∧ Nm m' ∧ Rnd (val m i * val n j) (val m' e') ∧ i + j + 52 ≤ e' ∧ e' ≤ i + j + 54 := by
  have hlo : 2 ^ 104 ≤ m * n := by
    calc 2 ^ 104 = 2 ^ 52 * 2 ^ 52 := by decide
      _ ≤ m * n := Nat.mul_le_mul nm.1 nn.1
  have hhi : m * n < 2 ^ 106 := by
    calc m * n < 2 ^ 53 * 2 ^ 53 := Nat.mul_lt_mul_of_lt_of_lt nm.2 nn.2
      _ = 2 ^ 106 := by decide
  have L0 : 104 ≤ (m * n).log2 := (Nat.le_log2 (by omega)).2 hlo
  have L1 : (m * n).log2 < 106 := (Nat.log2_lt (by omega)).2 hhi
  obtain ⟨m', e', h1, h2, h3, h4, h5⟩ := nearest_rnd (s ^^ t) (m * n) (i + j) (by omega) (by omega) (by omega)
  refine ⟨_, m', e', ?_, h1, h2, ?_, by omega, by omega⟩
  · unfold Format.mul; rw [hx, hy]; rfl
  · rw [← val_mul]; exact h3

theorem sticky (q r : Nat) : (r = 0 ∧ 2 * q + (r != 0).toNat = 2 * q) ∨ (0 < r ∧ 2 * q + (r != 0).toNat = 2 * q + 1) := by
  cases r with
  | zero => left; simp
  | succ r => right; simp
/-- The quotient with its sticky digit, rounded: as if the exact quotient were. -/
theorem div_core (neg : Bool) {m n q r mag : Nat} {i j : Int} (m0 : 4503599627370496 ≤ m) (m1 : m < 9007199254740992) (n0 : 4503599627370496 ≤ n) (n1 : n < 9007199254740992) (hd : n * q + r = m * 18014398509481984) (hr : r < n)
    (hst : (r = 0 ∧ mag = 2 * q) ∨ (0 < r ∧ mag = 2 * q + 1)) (l0 : -900 ≤ i - j) (l1 : i - j ≤ 800) :
    ∃ m' e', double.read (double.nearest neg mag (i - j - 54 - 1)) = .number neg m' e' ∧ Nm m' ∧ Rnd (val m i / val n j) (val m' e') ∧ i - j - 53 ≤ e' ∧ e' ≤ i - j - 51 := by
  have q0 : 9007199254740992 ≤ q := by
    apply Nat.le_of_not_lt; intro h
    have := Nat.mul_le_mul_left n (show q ≤ 9007199254740991 by omega)
    omega
  have q1 : q < 36028797018963968 := by
    apply Nat.lt_of_not_le; intro h
    have := Nat.mul_le_mul_left n h
    omega
  have mg0 : 18014398509481984 ≤ mag := by rcases hst with h | h <;> omega
  have mg1 : mag < 72057594037927936 := by rcases hst with h | h <;> omega
  have L0 : 54 ≤ mag.log2 := (Nat.le_log2 (by omega)).2 mg0
  have L1 : mag.log2 < 56 := (Nat.log2_lt (by omega)).2 mg1
  obtain ⟨k, m', e', h1, h2, h3, h4, h5, k0, k1, ca, cb⟩ := nearest_read neg mag (i - j - 54 - 1) (by omega) (by omega) (by omega)
  refine ⟨m', e', h1, h2, ?_, by omega, by omega⟩
  rw [h3]
  obtain ⟨c1, c2⟩ := cb (by omega)
  have hlo := Nat.log2_self_le (n := mag) (by omega)
  have g1 : 2 ^ mag.log2 = 4503599627370496 * 2 ^ (mag.log2 - 52) := by rw [show (4503599627370496 : Nat) = 2 ^ 52 from by decide, ← Nat.pow_add]; congr 1; omega
  rw [g1] at hlo
  have hg4 : ∃ c, 2 ^ (mag.log2 - 52) = 4 * c := by
    refine ⟨2 ^ (mag.log2 - 54), ?_⟩
    rw [show mag.log2 - 52 = 2 + (mag.log2 - 54) by omega, Nat.pow_add]
  have he0 : (2 : Rat) ^ (i - j - 54 - 1 + mag.log2 - 52) * (2 : Rat) ^ j = ((2 ^ (mag.log2 - 52) : Nat) : Rat) * (2 : Rat) ^ (i - 55) := by
    rw [← tp_nat, ← tp_add, ← tp_add]; congr 1; omega
  have hi0 : (2 : Rat) ^ i = (36028797018963968 : Rat) * (2 : Rat) ^ (i - 55) := by
    rw [show (36028797018963968 : Rat) = ((2 ^ 55 : Nat) : Rat) from by decide, ← tp_nat, ← tp_add]; congr 1; omega
  generalize 2 ^ (mag.log2 - 52) = g at *
  -- over n: the exact quotient is m * 2^55 / n units
  have A1 : 2 * (m * 36028797018963968) ≤ (2 * (k * g) + g) * n := by
    obtain ⟨c, rfl⟩ := hg4
    rcases hst with ⟨h, h'⟩ | ⟨h, h'⟩
    · have : 2 * mag * n ≤ (2 * (k * (4 * c)) + 4 * c) * n := Nat.mul_le_mul_right n c2
      have e : 2 * mag * n = 4 * (n * q) := by rw [h']; grind
      omega
    · have c2' : 2 * mag + 2 ≤ 2 * (k * (4 * c)) + 4 * c := by
        have : k * (4 * c) = 4 * (k * c) := by grind
        rw [this] at c2 ⊢; omega
      have := Nat.mul_le_mul_right n c2'
      have e : (2 * mag + 2) * n = 4 * (n * q) + 4 * n := by rw [h']; grind
      omega
  have A2 : 2 * (k * g) * n ≤ 2 * (m * 36028797018963968) + g * n := by
    obtain ⟨c, rfl⟩ := hg4
    rcases hst with ⟨h, h'⟩ | ⟨h, h'⟩
    · have := Nat.mul_le_mul_right n c1
      have e : (2 * mag + 4 * c) * n = 4 * (n * q) + 4 * c * n := by rw [h']; grind
      omega
    · have c1' : 2 * (k * (4 * c)) ≤ 4 * q + 4 * c := by
        have : k * (4 * c) = 4 * (k * c) := by grind
        rw [this] at c1 ⊢; omega
      have := Nat.mul_le_mul_right n c1'
      have e : (4 * q + 4 * c) * n = 4 * (n * q) + 4 * c * n := by grind
      omega
  have A3 : 4503599627370496 * g * n ≤ m * 36028797018963968 := by
    obtain ⟨c, rfl⟩ := hg4
    have hlo' : 4503599627370496 * (4 * c) ≤ 2 * q := by rcases hst with ⟨h, h'⟩ | ⟨h, h'⟩ <;> omega
    have := Nat.mul_le_mul_right n hlo'
    have e : 2 * q * n = 2 * (n * q) := by grind
    omega
  have hT := tp_pos (i - 55)
  have hV : 0 < val n j := val_pos n j (by omega)
  have hXV : val m i / val n j * val n j = val m i := Rat.div_mul_cancel (by intro h; rw [h] at hV; exact absurd hV (by decide))
  have hVi : val m i = (m : Rat) * (36028797018963968 : Rat) * (2 : Rat) ^ (i - 55) := by unfold val; rw [hi0]; grind
  have hVj : val n j = (n : Rat) * (2 : Rat) ^ j := rfl
  have B1 := Rat.mul_le_mul_of_nonneg_right (cast_le A1) (Rat.le_of_lt hT)
  have B2 := Rat.mul_le_mul_of_nonneg_right (cast_le A2) (Rat.le_of_lt hT)
  have B3 := Rat.mul_le_mul_of_nonneg_right (cast_le A3) (Rat.le_of_lt hT)
  simp only [Rat.natCast_add, Rat.natCast_mul] at B1 B2 B3
  apply rnd_core _ _ _ k0
  · refine Rat.le_of_mul_le_mul_right ?_ hV
    rw [hXV, hVi, hVj, show ((2 ^ 52 : Nat) : Rat) = 4503599627370496 from by decide]
    have : (4503599627370496 : Rat) * (2 : Rat) ^ (i - j - 54 - 1 + mag.log2 - 52) * ((n : Rat) * (2 : Rat) ^ j) = (4503599627370496 : Rat) * (n : Rat) * ((2 : Rat) ^ (i - j - 54 - 1 + mag.log2 - 52) * (2 : Rat) ^ j) := by grind
    rw [this, he0]; grind
  · refine Rat.le_of_mul_le_mul_right ?_ hV
    have e1 : 2 * (val m i / val n j) * val n j = 2 * val m i := by rw [Rat.mul_assoc, hXV]
    rw [e1, hVi, hVj]
    have : (2 * (k : Rat) + 1) * (2 : Rat) ^ (i - j - 54 - 1 + mag.log2 - 52) * ((n : Rat) * (2 : Rat) ^ j) = (2 * (k : Rat) + 1) * (n : Rat) * ((2 : Rat) ^ (i - j - 54 - 1 + mag.log2 - 52) * (2 : Rat) ^ j) := by grind
    rw [this, he0]; grind
  · refine Rat.le_of_mul_le_mul_right ?_ hV
    have e1 : 2 * (val m i / val n j) * val n j = 2 * val m i := by rw [Rat.mul_assoc, hXV]
    rw [e1, hVi, hVj]
    have : (2 * (k : Rat) - 1) * (2 : Rat) ^ (i - j - 54 - 1 + mag.log2 - 52) * ((n : Rat) * (2 : Rat) ^ j) = (2 * (k : Rat) - 1) * (n : Rat) * ((2 : Rat) ^ (i - j - 54 - 1 + mag.log2 - 52) * (2 : Rat) ^ j) := by grind
    rw [this, he0]; grind

/-- The quotient of two normal numbers. -/
theorem div_rnd {x y : Nat} {s t : Bool} {m n : Nat} {i j : Int} (hx : double.read x = .number s m i) (hy : double.read y = .number t n j) (nm : Nm m) (nn : Nm n) (l0 : -900 ≤ i - j) (l1 : i - j ≤ 800) :
    ∃ r m' e', double.div x y = some r ∧ double.read r = .number (s ^^ t) m' e' ∧ Nm m' ∧ Rnd (val m i / val n j) (val m' e') ∧ i - j - 53 ≤ e' ∧ e' ≤ i - j - 51 := by
  have hdiv : double.div x y = some (double.nearest (s ^^ t) (2 * (m * 2 ^ 54 / n) + (m * 2 ^ 54 % n != 0).toNat) (i - j - 54 - 1)) := by
    unfold Format.div; rw [hx, hy]
    have n0 : n ≠ 0 := by have := nn.1; omega
    have hf : double.fractionBits + 2 = 54 := by decide
    unfold Datum.quotient
    simp only [n0, if_false, log2_nm nm, log2_nm nn, hf, Nat.add_sub_cancel, Nat.shiftLeft_eq, Option.map_some]
    rfl
  rw [hdiv]
  have hr : m * 2 ^ 54 % n < n := Nat.mod_lt _ (by have := nn.1; omega)
  obtain ⟨m', e', h⟩ := div_core (s ^^ t) nm.1 nm.2 nn.1 nn.2 (Nat.div_add_mod (m * 2 ^ 54) n) hr (mag := 2 * (m * 2 ^ 54 / n) + (m * 2 ^ 54 % n != 0).toNat) (sticky _ _) l0 l1
  exact ⟨_, m', e', rfl, h⟩

theorem val_base (m : Nat) (i base : Int) (h : base ≤ i) : val m i = val (m * 2 ^ (i - base).toNat) base := by
  rw [val_shift]; congr 1; omega

theorem signed_false (m k : Nat) : signed false m k = ((m * 2 ^ k : Nat) : Int) := by
  simp [signed, Nat.shiftLeft_eq]
theorem signed_true (m k : Nat) : signed true m k = -((m * 2 ^ k : Nat) : Int) := by
  simp [signed, Nat.shiftLeft_eq]

theorem cmp_lt {a b : Int} (h : a < b) : compare a b = .lt := by
  simp [compare, compareOfLessAndEq, h]
theorem cmp_gt {a b : Int} (h : b < a) : compare a b = .gt := by
  have h1 : ¬ a < b := by omega
  have h2 : ¬ a = b := by omega
  simp [compare, compareOfLessAndEq, h1, h2]
theorem cmp_eq {a b : Int} (h : a = b) : compare a b = .eq := by
  subst h; simp [compare, compareOfLessAndEq]

theorem ord_lt {m n : Nat} {i j : Int} (h : val m i < val n j) : Datum.order (.number false m i) (.number false n j) = some .lt := by
  rw [val_base m i (min i j) (by omega), val_base n j (min i j) (by omega), val_lt] at h
  simp only [Datum.order, signed_false]
  rw [cmp_lt (by omega)]
theorem ord_gt {m n : Nat} {i j : Int} (h : val n j < val m i) : Datum.order (.number false m i) (.number false n j) = some .gt := by
  rw [val_base m i (min i j) (by omega), val_base n j (min i j) (by omega), val_lt] at h
  simp only [Datum.order, signed_false]
  rw [cmp_gt (by omega)]
theorem val_inj (m n : Nat) (e : Int) (h : val m e = val n e) : m = n := by
  have h1 : ¬ m < n := fun c => by have := (val_lt m n e).2 c; grind
  have h2 : ¬ n < m := fun c => by have := (val_lt n m e).2 c; grind
  omega
theorem ord_eq {m n : Nat} {i j : Int} (h : val m i = val n j) : Datum.order (.number false m i) (.number false n j) = some .eq := by
  rw [val_base m i (min i j) (by omega), val_base n j (min i j) (by omega)] at h
  have h := val_inj _ _ _ h
  simp only [Datum.order, signed_false]
  rw [cmp_eq (by omega)]
theorem ord_neg {m n : Nat} {i j : Int} (h : 0 < n) : Datum.order (.number true m i) (.number false n j) = some .lt := by
  simp only [Datum.order, signed_false, signed_true]
  have : 0 < n * 2 ^ (j - min i j).toNat := Nat.mul_pos h (Nat.two_pow_pos _)
  rw [cmp_lt (by omega)]

theorem val_zero (n : Nat) : val n 0 = (n : Rat) := by
  unfold val; rw [Rat.zpow_zero, Rat.mul_one]

/-- The words of 1 and of 200. -/
def oneW : Nat := 4607182418800017408
def topW : Nat := 4641240890982006784
theorem read_one : double.read oneW = .number false 4503599627370496 (-52) := by decide
theorem read_top : double.read topW = .number false 7036874417766400 (-45) := by decide
theorem val_one : val 4503599627370496 (-52) = 1 := by
  have := val_shift 1 52 (-52)
  rw [show (1 * 2 ^ 52 : Nat) = 4503599627370496 from by decide] at this
  rw [this]; exact val_zero 1
theorem val_top : val 7036874417766400 (-45) = 200 := by
  have := val_shift 200 45 (-45)
  rw [show (200 * 2 ^ 45 : Nat) = 7036874417766400 from by decide] at this
  rw [this]; exact val_zero 200

/-- Go's max and min of two floats that are no NaNs. -/
def maxB (x y : Nat) : Option Nat := match double.order x y with
  | none => none
  | some .lt => some y
  | some .gt => some x
  | some .eq => some (if (double.read x).neg then y else x)
def minB (x y : Nat) : Option Nat := match double.order x y with
  | none => none
  | some .lt => some x
  | some .gt => some y
  | some .eq => some (if (double.read x).neg then x else y)

theorem max_lt {x y : Nat} (h : double.order x y = some .lt) : maxB x y = some y := by unfold maxB; rw [h]
theorem max_gt {x y : Nat} (h : double.order x y = some .gt) : maxB x y = some x := by unfold maxB; rw [h]
theorem max_eq {x y : Nat} (h : double.order x y = some .eq) (hn : (double.read x).neg = false) : maxB x y = some x := by unfold maxB; rw [h]; simp [hn]
theorem min_lt {x y : Nat} (h : double.order x y = some .lt) : minB x y = some x := by unfold minB; rw [h]
theorem min_gt {x y : Nat} (h : double.order x y = some .gt) : minB x y = some y := by unfold minB; rw [h]
theorem min_eq {x y : Nat} (h : double.order x y = some .eq) (hn : (double.read x).neg = false) : minB x y = some y := by unfold minB; rw [h]; simp [hn]

theorem min_one_top : minB oneW topW = some oneW := by decide
theorem int_one : (double.read oneW).toInt .zero = some 1 := by decide
theorem int_top : (double.read topW).toInt .zero = some 200 := by decide

theorem cast_int_nat (c : Int) (h : 0 ≤ c) : (c : Rat) = ((c.toNat : Nat) : Rat) := by
  obtain ⟨n, rfl⟩ := Int.eq_ofNat_of_zero_le h
  rw [Int.toNat_natCast]; exact Rat.intCast_natCast n

/-- A number between 1 and 200, cut towards zero. -/
theorem int_mid {m : Nat} {e : Int} (nm : Nm m) (h1 : 1 ≤ val m e) (h2 : val m e ≤ 200) : ∃ k : Int, (Datum.number false m e).toInt .zero = some k ∧ ∀ c : Int, 0 ≤ c → (c ≤ k ↔ (c : Rat) ≤ val m e) := by
  have e0 : e < 0 := by
    apply Int.not_le.1; intro he
    have h := val_base m e 0 he
    rw [h] at h2
    have h3 : val 200 0 = 200 := val_zero 200
    rw [← h3, val_le] at h2
    have := Nat.mul_le_mul_left m (Nat.two_pow_pos (e - 0).toNat)
    have := nm.1
    omega
  have e1 : -53 < e := by
    apply Int.not_le.1; intro he
    have h3 := val_base 1 (-53) e he
    have h4 : val 9007199254740992 (-53) = 1 := by
      have := val_shift 1 53 (-53)
      rw [show (1 * 2 ^ 53 : Nat) = 9007199254740992 from by decide] at this
      rw [this]; exact val_zero 1
    have h5 := val_base 9007199254740992 (-53) e he
    rw [h4] at h5
    rw [h5, val_le] at h1
    have := nm.2
    have := Nat.mul_le_mul_left 9007199254740992 (Nat.two_pow_pos (-53 - e).toNat)
    omega
  obtain ⟨d, hd⟩ := Int.eq_ofNat_of_zero_le (show 0 ≤ -e by omega)
  have he : e = -(d : Int) := by omega
  subst he
  refine ⟨((m / 2 ^ d : Nat) : Int), ?_, ?_⟩
  · have t1 : (-(d : Int)).toNat = 0 := by omega
    have t2 : (- -(d : Int)).toNat = d := by omega
    simp only [Datum.toInt, Datum.integral, t1, t2, Nat.shiftLeft_zero, Toward.cut, log2_nm nm]
    have t3 : min d (52 + 2) = d := by omega
    rw [t3]
    simp [signed, Nat.shiftLeft_eq]
  · intro c hc
    rw [cast_int_nat c hc]
    have hb := val_base c.toNat 0 (-(d : Int)) (by omega)
    have hz : val c.toNat 0 = ((c.toNat : Nat) : Rat) := val_zero _
    rw [← hz, hb, val_le]
    have : (0 - -(d : Int)).toNat = d := by omega
    rw [this, ← Nat.le_div_iff_mul_le (Nat.two_pow_pos d)]
    omega

/-- The share's last steps: before / need, held within 1 and 200, cut to an int. -/
def shareB (b need : Nat) : Option Int :=
  (double.div b need).bind fun r => (maxB r oneW).bind fun mx => (minB mx topW).bind fun mn => (double.read mn).toInt .zero

theorem ord_words {x y : Nat} {dx dy : Datum} (hx : double.read x = dx) (hy : double.read y = dy) : double.order x y = dx.order dy := by
  unfold Format.order; rw [hx, hy]

/-- A quotient that reads as a number, positive. -/
theorem share_num {b need r m : Nat} {e : Int} (hd : double.div b need = some r) (hr : double.read r = .number false m e) (nm : Nm m) :
    ∃ k : Int, shareB b need = some k ∧ 1 ≤ k ∧ k ≤ 200 ∧ ∀ c : Int, 2 ≤ c → c ≤ 200 → (c ≤ k ↔ (c : Rat) ≤ val m e) := by
  unfold shareB
  rw [hd]
  simp only [Option.bind_some]
  have hneg : (double.read r).neg = false := by rw [hr]; rfl
  by_cases c1 : val m e < 1
  · have ho := ord_words hr read_one
    rw [ord_lt (by rw [val_one]; exact c1)] at ho
    rw [max_lt ho]
    simp only [Option.bind_some, min_one_top]
    refine ⟨1, int_one, by omega, by omega, fun c h2 _ => ⟨fun h => by omega, fun h => ?_⟩⟩
    exfalso
    have : ((2 : Int) : Rat) ≤ (c : Rat) := Rat.intCast_le_intCast.2 h2
    have h2 : ((2 : Int) : Rat) = 2 := rfl
    grind
  · have hmx : maxB r oneW = some r := by
      have ho := ord_words hr read_one
      by_cases c2 : val m e = 1
      · rw [ord_eq (by rw [val_one]; exact c2)] at ho
        exact max_eq ho hneg
      · rw [ord_gt (by rw [val_one]; grind)] at ho
        exact max_gt ho
    rw [hmx]
    simp only [Option.bind_some]
    have ho := ord_words hr read_top
    by_cases c3 : val m e < 200
    · rw [ord_lt (by rw [val_top]; exact c3)] at ho
      rw [min_lt ho]
      simp only [Option.bind_some, hr]
      obtain ⟨k, hk, hc⟩ := int_mid (e := e) nm (by grind) (by grind)
      refine ⟨k, hk, ?_, ?_, fun c h2 _ => hc c (by omega)⟩
      · rw [hc 1 (by omega)]; show (1 : Rat) ≤ val m e; grind
      · apply Int.not_lt.1; intro h
        have := (hc 201 (by omega)).1 (by omega)
        have h2 : ((201 : Int) : Rat) = 201 := rfl
        grind
    · have hmn : minB r topW = some topW := by
        by_cases c4 : val m e = 200
        · rw [ord_eq (by rw [val_top]; exact c4)] at ho
          exact min_eq ho hneg
        · rw [ord_gt (by rw [val_top]; grind)] at ho
          exact min_gt ho
      rw [hmn]
      simp only [Option.bind_some]
      refine ⟨200, int_top, by omega, by omega, fun c h2 h3 => ⟨fun _ => ?_, fun _ => h3⟩⟩
      have : (c : Rat) ≤ ((200 : Int) : Rat) := Rat.intCast_le_intCast.2 h3
      have h2 : ((200 : Int) : Rat) = 200 := rfl
      grind

/-- A quotient that reads as a negative number. -/
theorem share_neg {b need r m : Nat} {e : Int} (hd : double.div b need = some r) (hr : double.read r = .number true m e) : shareB b need = some 1 := by
  unfold shareB
  rw [hd]
  have ho := ord_words hr read_one
  rw [ord_neg (by decide)] at ho
  simp only [Option.bind_some]
  rw [max_lt ho]
  simp only [Option.bind_some, min_one_top]
  exact int_one
theorem share_inf {b need r : Nat} {t : Bool} (hd : double.div b need = some r) (hr : double.read r = .infinity t) : shareB b need = some (if t then 1 else 200) := by
  unfold shareB
  rw [hd]
  have ho := ord_words hr read_one
  simp only [Option.bind_some]
  cases t
  · have ho1 : double.order r oneW = some .gt := ho
    rw [max_gt ho1]
    have ho2 : double.order r topW = some .gt := ord_words hr read_top
    simp only [Option.bind_some]
    rw [min_gt ho2]
    exact int_top
  · have ho1 : double.order r oneW = some .lt := ho
    rw [max_lt ho1]
    simp only [Option.bind_some, min_one_top]
    exact int_one

/-- The word of an int. -/
def fI (n : Int) : Nat := double.write (.number (decide (n < 0)) n.natAbs 0)

theorem fI_nz (n : Int) (h : n ≠ 0) (h0 : -9223372036854775808 ≤ n) (h1 : n ≤ 9223372036854775807) :
    ∃ m e, double.read (fI n) = .number (decide (n < 0)) m e ∧ Nm m ∧ Rnd (n.natAbs : Rat) (val m e) ∧ -52 ≤ e ∧ e ≤ 12 := by
  have hl : n.natAbs.log2 < 64 := (Nat.log2_lt (by omega)).2 (by omega)
  obtain ⟨m, e, a, b, c, d, f⟩ := nearest_rnd (decide (n < 0)) n.natAbs 0 (by omega) (by omega) (by omega)
  rw [val_zero] at c
  exact ⟨m, e, a, b, c, by omega, by omega⟩

theorem fI_zero : double.read (fI 0) = .number false 0 (-1074) := by decide

theorem read_zeroW (t : Bool) : double.read (double.word t 0) = .number t 0 (-1074) := by cases t <;> decide
theorem read_infW (t : Bool) : double.read (double.word t double.infRung) = .infinity t := by cases t <;> decide

theorem Rnd.pos {x : Rat} {y : Rat} (h : Rnd x y) (hx : 0 < x) : 0 < y := by
  have := h.lo
  have h2 : (0 : Rat) < x * (2 ^ 53 - 1) := Rat.mul_pos hx (by grind)
  grind

/-- took / made * l. -/
def needB (took made l : Int) : Option Nat := (double.div (fI took) (fI made)).bind fun r => double.mul r (fI l)

theorem need_zero (made l : Int) (hm : made ≠ 0) (m0 : -9223372036854775808 ≤ made) (m1 : made ≤ 9223372036854775807) (hl : 1 ≤ l) (l1 : l ≤ 9223372036854775807) :
    ∃ w, needB 0 made l = some w ∧ double.read w = .number (decide (made < 0)) 0 (-1074) := by
  obtain ⟨n, j, hr, nn, -, -, -⟩ := fI_nz made hm m0 m1
  obtain ⟨n2, j2, hr2, nn2, -, -, -⟩ := fI_nz l (by omega) (by omega) l1
  have hlt : decide (l < 0) = false := by simp; omega
  rw [hlt] at hr2
  have d1 : double.div (fI 0) (fI made) = some (double.word (decide (made < 0)) 0) := by
    unfold Format.div; rw [fI_zero, hr]
    have n0 : n ≠ 0 := by have := nn.1; omega
    unfold Datum.quotient
    simp [n0, Format.write, Format.nearest]
  refine ⟨double.word (decide (made < 0)) 0, ?_, read_zeroW _⟩
  unfold needB
  rw [d1, Option.bind_some]
  unfold Format.mul
  rw [read_zeroW, hr2]
  simp [Datum.product, Format.write, Format.nearest]

theorem share_zero (b : Int) (hb : 0 < b) (b1 : b ≤ 9223372036854775807) {w : Nat} {t : Bool} (hw : double.read w = .number t 0 (-1074)) : shareB (fI b) w = some (if t then 1 else 200) := by
  obtain ⟨n, j, hr, nn, -, -, -⟩ := fI_nz b (by omega) (by omega) b1
  have hlt : decide (b < 0) = false := by simp; omega
  rw [hlt] at hr
  have d1 : double.div (fI b) w = some (double.word t double.infRung) := by
    unfold Format.div; rw [hr, hw]
    have n0 : n ≠ 0 := by have := nn.1; omega
    simp [Datum.quotient, n0, Format.write]
  exact share_inf d1 (read_infW t)

/-- What need is where took is not nought. -/
structure NeedIs (took made l : Int) (w : Nat) where
  m : Nat
  e : Int
  T : Rat
  M : Rat
  L : Rat
  Q : Rat
  rd : double.read w = .number (decide (took < 0) ^^ decide (made < 0)) m e
  nm : Nm m
  e0 : -117 ≤ e
  e1 : e ≤ 79
  hT : Rnd (took.natAbs : Rat) T
  hM : Rnd (made.natAbs : Rat) M
  hL : Rnd (l.natAbs : Rat) L
  hQ : Rnd (T / M) Q
  hN : Rnd (Q * L) (val m e)
  pM : 0 < M

theorem need_nz (took made l : Int) (ht : took ≠ 0) (t0 : -9223372036854775808 ≤ took) (t1 : took ≤ 9223372036854775807) (hm : made ≠ 0) (m0 : -9223372036854775808 ≤ made) (m1 : made ≤ 9223372036854775807) (hl : 1 ≤ l) (l1 : l ≤ 9223372036854775807) :
    ∃ w, needB took made l = some w ∧ Nonempty (NeedIs took made l w) := by
  obtain ⟨n1, j1, hr1, nn1, k1, a1, c1⟩ := fI_nz took ht t0 t1
  obtain ⟨n2, j2, hr2, nn2, k2, a2, c2⟩ := fI_nz made hm m0 m1
  obtain ⟨n3, j3, hr3, nn3, k3, a3, c3⟩ := fI_nz l (by omega) (by omega) l1
  have hlt : decide (l < 0) = false := by simp; omega
  rw [hlt] at hr3
  obtain ⟨r, m4, e4, d4, hr4, nn4, k4, a4, c4⟩ := div_rnd hr1 hr2 nn1 nn2 (by omega) (by omega)
  obtain ⟨w, m5, e5, d5, hr5, nn5, k5, a5, c5⟩ := mul_rnd hr4 hr3 nn4 nn3 (by omega) (by omega)
  refine ⟨w, ?_, ⟨⟨m5, e5, _, _, _, _, ?_, nn5, by omega, by omega, k1, k2, k3, k4, k5, val_pos _ _ (by have := nn2.1; omega)⟩⟩⟩
  · unfold needB; rw [d4, Option.bind_some, d5]
  · rw [hr5]; simp

theorem nm_unique {m n : Nat} {i j : Int} (hm : Nm m) (hn : Nm n) (h : val m i = val n j) : m = n ∧ i = j := by
  have key : ∀ {m n : Nat} {i j : Int}, Nm m → Nm n → val m i = val n j → ¬ i < j := by
    intro m n i j hm hn h hlt
    rw [val_base n j i (by omega)] at h
    have := val_inj _ _ _ h
    have h2 : 2 ≤ 2 ^ (j - i).toNat := by
      obtain ⟨d, hd⟩ : ∃ d, (j - i).toNat = d + 1 := ⟨(j - i).toNat - 1, by omega⟩
      rw [hd, Nat.pow_succ]; have := Nat.two_pow_pos d; omega
    have h3 := Nat.mul_le_mul_left n h2
    have := hm.2; have := hn.1
    omega
  have h1 := key hm hn h
  have h2 := key hn hm h.symm
  have : i = j := by omega
  subst this
  exact ⟨val_inj _ _ _ h, rfl⟩

theorem div_lt_div {a b c : Rat} (hc : 0 < c) (h : a < b) : a / c < b / c := by
  rw [Rat.div_lt_iff hc, Rat.div_mul_cancel (by intro h; rw [h] at hc; exact absurd hc (by decide))]
  exact h

/-- The share at a need that is a number. -/
theorem share_nz (b took made l : Int) (hb : 0 < b) (b1 : b ≤ 9223372036854775807) {w : Nat} (N : NeedIs took made l w) :
    ∃ k, shareB (fI b) w = some k ∧ 1 ≤ k ∧ k ≤ 200 ∧ ((decide (took < 0) ^^ decide (made < 0)) = true → k = 1) ∧
      ((decide (took < 0) ^^ decide (made < 0)) = false → ∃ n i m' e', double.read (fI b) = .number false n i ∧ Nm n ∧ Nm m' ∧ Rnd (b.natAbs : Rat) (val n i) ∧ Rnd (val n i / val N.m N.e) (val m' e') ∧ ∀ c : Int, 2 ≤ c → c ≤ 200 → (c ≤ k ↔ (c : Rat) ≤ val m' e')) := by
  obtain ⟨n, i, hr, nn, kk, a, c⟩ := fI_nz b (by omega) (by omega) b1
  have hlt : decide (b < 0) = false := by simp; omega
  rw [hlt] at hr
  have e0 := N.e0
  have e1 := N.e1
  obtain ⟨r, m', e', d, hr', nn', k', -, -⟩ := div_rnd hr N.rd nn N.nm (by omega) (by omega)
  cases hs : (decide (took < 0) ^^ decide (made < 0))
  · rw [hs] at hr'
    obtain ⟨k, h1, h2, h3, h4⟩ := share_num d hr' nn'
    exact ⟨k, h1, h2, h3, fun h => absurd h (by decide), fun _ => ⟨n, i, m', e', hr, nn, nn', kk, k', h4⟩⟩
  · rw [hs] at hr'
    exact ⟨1, share_neg d hr', by omega, by omega, fun _ => rfl, fun h => absurd h (by decide)⟩

/-- LATER IS NO GREATER. -/
theorem share_mono (b c took made l : Int) (hb : 0 < b) (hbc : b ≤ c) (c1 : c ≤ 9223372036854775807) {w : Nat} (N : NeedIs took made l w) {k₁ k₂ : Int} (h₁ : shareB (fI b) w = some k₁) (h₂ : shareB (fI c) w = some k₂) : k₁ ≤ k₂ := by
  obtain ⟨p, g1, g2, g3, g4, g5⟩ := share_nz b took made l hb (by omega) N
  obtain ⟨q, f1, f2, f3, f4, f5⟩ := share_nz c took made l (by omega) c1 N
  rw [h₁] at g1; rw [h₂] at f1
  cases g1; cases f1
  cases hs : (decide (took < 0) ^^ decide (made < 0))
  · obtain ⟨n, i, m', e', r1, n1, n1', R1, Q1, K1⟩ := g5 hs
    obtain ⟨n₂, i₂, m₂, e₂, r2, n2, n2', R2, Q2, K2⟩ := f5 hs
    by_cases hbc' : b = c
    · subst hbc'; rw [h₁] at h₂; cases h₂; omega
    have hle : val n i ≤ val n₂ i₂ := Rnd.mono R1 R2 n1 n2 (Rat.natCast_lt_natCast.2 (by omega))
    by_cases heq : val n i = val n₂ i₂
    · obtain ⟨e1, e2⟩ := nm_unique n1 n2 heq
      subst e1 e2
      have : double.div (fI b) w = double.div (fI c) w := by unfold Format.div; rw [r1, r2]
      have : shareB (fI b) w = shareB (fI c) w := by unfold shareB; rw [this]
      rw [h₁, h₂] at this; cases this; omega
    · have hlt : val n i < val n₂ i₂ := by grind
      have hq := div_lt_div (val_pos N.m N.e (by have := N.nm.1; omega)) hlt
      have hy := Rnd.mono Q1 Q2 n1' n2' hq
      by_cases h1 : k₁ ≤ 1
      · omega
      · have := (K1 k₁ (by omega) g3).1 (Int.le_refl _)
        exact (K2 k₁ (by omega) g3).2 (Rat.le_trans this hy)
  · have := g4 hs; omega
end Go.Proofs.Qxb6603509aMods.Fl
