/-
  THE LAW's OWN 128-BIT ARITHMETIC: zzSubSat, zzMul64, zzMagInt, zzMagInt64, zzShr50, zzAdd128, zzLE128, zzSub128.
-/
import Derived.Test.Qxb6603509aModsShare
import Derived.Lib.Mul64
import Derived.Laws.Bits64b
namespace Go.Proofs.Qxb6603509aMods
open Go.RowKit

namespace W
theorem maskN (a : Nat) (ha : a < 18446744073709551616) : bits .and .u64 (a : Int) 4294967295 = ((a % 4294967296 : Nat) : Int) := by
  have h := bits_and_u64_nat a 4294967295 ha (by omega)
  have e : a &&& 4294967295 = a % 4294967296 := Nat.and_two_pow_sub_one_eq_mod a 32
  rw [e] at h
  exact h
theorem divN (a : Nat) : (a : Int) / 4294967296 = ((a / 4294967296 : Nat) : Int) := by omega
theorem mulN (a b : Nat) : (a : Int) * (b : Int) = ((a * b : Nat) : Int) := (Int.natCast_mul a b).symm
theorem addN (a b : Nat) : (a : Int) + (b : Int) = ((a + b : Nat) : Int) := (Int.natCast_add a b).symm
theorem wrapN (a : Nat) (ha : a < 18446744073709551616) : IntKind.u64.wrap (a : Int) = (a : Int) := by rw [IntKind.wrap_u64]; omega
theorem wrapM (a : Nat) : IntKind.u64.wrap (a : Int) = ((a % 18446744073709551616 : Nat) : Int) := by rw [IntKind.wrap_u64]; omega
theorem low50 (a : Int) (h0 : 0 ≤ a) (h1 : a < 18446744073709551616) : bits .and .u64 a 1125899906842623 = a % 1125899906842624 := by
  obtain ⟨n, rfl⟩ := Int.eq_ofNat_of_zero_le h0
  have h := bits_and_u64_nat n 1125899906842623 (by omega) (by omega)
  have e : n &&& 1125899906842623 = n % 1125899906842624 := Nat.and_two_pow_sub_one_eq_mod n 50
  rw [e] at h
  exact h.trans (by omega)
theorem orN (a b : Int) (h0 : 0 ≤ a) (h1 : a < 16384) (b0 : 0 ≤ b) (b1 : b < 1125899906842624) : bits .or .u64 a (b * 16384) = b * 16384 + a := by
  obtain ⟨n, rfl⟩ := Int.eq_ofNat_of_zero_le h0
  obtain ⟨m, rfl⟩ := Int.eq_ofNat_of_zero_le b0
  have h := bits_or_u64_nat n (m * 16384) (by omega) (by omega)
  have e : n ||| m * 16384 = m * 16384 + n := by
    have := Nat.shiftLeft_add_eq_or_of_lt (b := n) (i := 14) (by omega) m
    rw [Nat.shiftLeft_eq] at this
    rw [Nat.or_comm]; exact this.symm
  rw [e] at h
  exact h.trans (by omega)
end W

/-- The two words (h, l) are the number x. -/
structure Is128 (h l x : Int) : Prop where
  h0 : 0 ≤ h
  h1 : h < 18446744073709551616
  l0 : 0 ≤ l
  l1 : l < 18446744073709551616
  eq : x = h * 18446744073709551616 + l

/-- A tuple of two words: the number x. -/
def Two (e : Ending) (x : Int) : Prop := ∃ h l, e = .returned (.tuple #[.int .u64 h, .int .u64 l]) ∧ Is128 h l x

set_option maxHeartbeats 1000000 in
theorem mul_any (x y : Nat) (hx : x < 18446744073709551616) (hy : y < 18446744073709551616) (w : World) :
    Calls Trym.prog 41 #[.int .u64 x, .int .u64 y] w fun e w' => Two e ((x * y : Nat) : Int) ∧ w = w' := by
  obtain ⟨bd, bt, bw, hhi⟩ := Lib.mul64_hi x y hx hy
  have ba := Lib.half_mul_le (a := x / 4294967296) (b := y / 4294967296) (by omega) (by omega)
  have bb := Lib.half_mul_le (a := x / 4294967296) (b := y % 4294967296) (by omega) (by omega)
  have bc := Lib.half_mul_le (a := x % 4294967296) (b := y / 4294967296) (by omega) (by omega)
  have ba' : x / 4294967296 * (y / 4294967296) < 18446744073709551616 := by omega
  have bb' : x / 4294967296 * (y % 4294967296) < 18446744073709551616 := by omega
  have bc' : x % 4294967296 * (y / 4294967296) < 18446744073709551616 := by omega
  have bh1 : x / 4294967296 * (y / 4294967296) + (x / 4294967296 * (y % 4294967296) + x % 4294967296 * (y % 4294967296) / 4294967296) / 4294967296 < 18446744073709551616 := by omega
  have bh : x / 4294967296 * (y / 4294967296) + (x / 4294967296 * (y % 4294967296) + x % 4294967296 * (y % 4294967296) / 4294967296) / 4294967296 + ((x / 4294967296 * (y % 4294967296) + x % 4294967296 * (y % 4294967296) / 4294967296) % 4294967296 + x % 4294967296 * (y / 4294967296)) / 4294967296 < 18446744073709551616 := by omega
  go_enter Trym.func41, Trym.ntmps41
  go_wp2
  simp only [W.maskN x hx, W.maskN y hy, W.divN, W.mulN, W.addN, W.wrapN _ bd, W.wrapN _ bb', W.wrapN _ bt, W.maskN _ bt, W.wrapN _ bc', W.wrapN _ bw, W.wrapN _ ba', W.wrapN _ bh1, W.wrapN _ bh, W.wrapM (x * y)]
  rw [hhi]
  have hlt : x * y / 18446744073709551616 < 18446744073709551616 := by
    apply (Nat.div_lt_iff_lt_mul (by decide)).2
    exact Nat.mul_lt_mul_of_lt_of_lt hx hy
  generalize x * y = p at *
  go_ret2
  exact ⟨⟨_, _, rfl, ⟨by omega, by omega, by omega, by omega, by omega⟩⟩, rfl⟩

set_option maxHeartbeats 1000000 in
theorem magInt_any (x : Int) (h0 : -9223372036854775808 ≤ x) (h1 : x ≤ 9223372036854775807) (w : World) :
    Calls Trym.prog 42 #[.int .i64 x] w fun e w' => e = .returned (.int .u64 (x.natAbs : Int)) ∧ w = w' := by
  by_cases h : 0 ≤ x
  · have e : (x.natAbs : Int) = x := by omega
    rw [e]
    go_enter Trym.func42, Trym.ntmps42
    go_wp2
    go_ret
    exact ⟨rfl, rfl⟩
  · have e : (x.natAbs : Int) = -(x + 1) + 1 := by omega
    rw [e]
    go_enter Trym.func42, Trym.ntmps42
    go_wp2
    go_ret
    exact ⟨rfl, rfl⟩
set_option maxHeartbeats 1000000 in
theorem magInt64_any (x : Int) (h0 : -9223372036854775808 ≤ x) (h1 : x ≤ 9223372036854775807) (w : World) :
    Calls Trym.prog 43 #[.int .i64 x] w fun e w' => e = .returned (.int .u64 (x.natAbs : Int)) ∧ w = w' := by
  by_cases h : 0 ≤ x
  · have e : (x.natAbs : Int) = x := by omega
    rw [e]
    go_enter Trym.func43, Trym.ntmps43
    go_wp2
    go_ret
    exact ⟨rfl, rfl⟩
  · have e : (x.natAbs : Int) = -(x + 1) + 1 := by omega
    rw [e]
    go_enter Trym.func43, Trym.ntmps43
    go_wp2
    go_ret
    exact ⟨rfl, rfl⟩

set_option maxHeartbeats 1000000 in
theorem shr_any (h l x : Int) (hx : Is128 h l x) (w : World) :
    Calls Trym.prog 44 #[.int .u64 h, .int .u64 l] w fun e w' => Two e (x / 1125899906842624) ∧ w = w' := by
  obtain ⟨h0, h1, l0, l1, rfl⟩ := hx
  have e1 : IntKind.u64.wrap (h * 16384) = h % 1125899906842624 * 16384 := by rw [IntKind.wrap_u64]; omega
  have e2 : bits BinOp.or IntKind.u64 (l / 1125899906842624) (h % 1125899906842624 * 16384) = h % 1125899906842624 * 16384 + l / 1125899906842624 := W.orN _ _ (by omega) (by omega) (by omega) (by omega)
  go_enter Trym.func44, Trym.ntmps44
  go_wp2
  go_ret2
  exact ⟨⟨_, _, rfl, ⟨by omega, by omega, by omega, by omega, by omega⟩⟩, rfl⟩

set_option maxHeartbeats 1000000 in
theorem le_any (ah al x bh bl y : Int) (hx : Is128 ah al x) (hy : Is128 bh bl y) (w : World) :
    Calls Trym.prog 47 #[.int .u64 ah, .int .u64 al, .int .u64 bh, .int .u64 bl] w fun e w' => e = .returned (.bool (decide (x ≤ y))) ∧ w = w' := by
  obtain ⟨a0, a1, a2, a3, rfl⟩ := hx
  obtain ⟨b0, b1, b2, b3, rfl⟩ := hy
  by_cases c : ah < bh
  · have e : decide (ah * 18446744073709551616 + al ≤ bh * 18446744073709551616 + bl) = true := by simp; omega
    rw [e]
    go_enter Trym.func47, Trym.ntmps47
    go_wp2
    go_ret
    exact ⟨rfl, rfl⟩
  · by_cases d : ah = bh
    · subst d
      have e : decide (ah * 18446744073709551616 + al ≤ ah * 18446744073709551616 + bl) = decide (al ≤ bl) := by simp
      rw [e]
      clear e
      go_enter Trym.func47, Trym.ntmps47
      go_wp2
      go_ret
      exact ⟨rfl, rfl⟩
    · have e : decide (ah * 18446744073709551616 + al ≤ bh * 18446744073709551616 + bl) = false := by simp; omega
      have d' : (ah == bh) = false := by simp [d]
      rw [e]
      go_enter Trym.func47, Trym.ntmps47
      go_wp2
      go_ret
      exact ⟨by simp, rfl⟩

/-- What zzAdd128 gives. -/
def Sum128 (e : Ending) (x : Int) : Prop := ∃ h l, (e = .returned (.tuple #[.int .u64 h, .int .u64 l, .bool true]) ∧ 340282366920938463463374607431768211456 ≤ x) ∨ (e = .returned (.tuple #[.int .u64 h, .int .u64 l, .bool false]) ∧ Is128 h l x)

set_option maxHeartbeats 1000000 in
theorem add_any128 (ah al x bh bl y : Int) (hx : Is128 ah al x) (hy : Is128 bh bl y) (w : World) :
    Calls Trym.prog 45 #[.int .u64 ah, .int .u64 al, .int .u64 bh, .int .u64 bl] w fun e w' => Sum128 e (x + y) ∧ w = w' := by
  obtain ⟨a0, a1, a2, a3, rfl⟩ := hx
  obtain ⟨b0, b1, b2, b3, rfl⟩ := hy
  by_cases c : al + bl < 18446744073709551616
  · by_cases d : ah + bh < 18446744073709551616
    · have o : decide (ah + bh < ah) = false := by simp; omega
      go_enter Trym.func45, Trym.ntmps45
      go_wp2
      go_ret3
      exact ⟨⟨_, _, .inr ⟨rfl, ⟨by omega, by omega, by omega, by omega, by omega⟩⟩⟩, rfl⟩
    · have e : IntKind.u64.wrap (ah + bh) = ah + bh - 18446744073709551616 := by rw [IntKind.wrap_u64]; omega
      have o : decide (ah + bh - 18446744073709551616 < ah) = true := by simp; omega
      go_enter Trym.func45, Trym.ntmps45
      go_wp2
      go_ret3
      exact ⟨⟨_, _, .inl ⟨rfl, by omega⟩⟩, rfl⟩
  · have e : IntKind.u64.wrap (al + bl) = al + bl - 18446744073709551616 := by rw [IntKind.wrap_u64]; omega
    by_cases d : ah + bh + 1 < 18446744073709551616
    · have o : decide (ah + bh < ah) = false := by simp; omega
      go_enter Trym.func45, Trym.ntmps45
      go_wp2
      go_ret3
      exact ⟨⟨_, _, .inr ⟨rfl, ⟨by omega, by omega, by omega, by omega, by omega⟩⟩⟩, rfl⟩
    · by_cases f : ah + bh < 18446744073709551616
      · have e2 : IntKind.u64.wrap (ah + bh + 1) = 0 := by rw [IntKind.wrap_u64]; omega
        go_enter Trym.func45, Trym.ntmps45
        go_wp2
        go_ret3
        exact ⟨⟨_, _, .inl ⟨rfl, by omega⟩⟩, rfl⟩
      · have e2 : IntKind.u64.wrap (ah + bh) = ah + bh - 18446744073709551616 := by rw [IntKind.wrap_u64]; omega
        have o : decide (ah + bh - 18446744073709551616 < ah) = true := by simp; omega
        go_enter Trym.func45, Trym.ntmps45
        go_wp2
        go_ret3
        exact ⟨⟨_, _, .inl ⟨rfl, by omega⟩⟩, rfl⟩

set_option maxHeartbeats 1000000 in
theorem sub_any128 (ah al x bh bl y : Int) (hx : Is128 ah al x) (hy : Is128 bh bl y) (hle : y ≤ x) (w : World) :
    Calls Trym.prog 48 #[.int .u64 ah, .int .u64 al, .int .u64 bh, .int .u64 bl] w fun e w' => Two e (x - y) ∧ w = w' := by
  obtain ⟨a0, a1, a2, a3, rfl⟩ := hx
  obtain ⟨b0, b1, b2, b3, rfl⟩ := hy
  by_cases c : al < bl
  · have e : IntKind.u64.wrap (al - bl) = al - bl + 18446744073709551616 := by rw [IntKind.wrap_u64]; omega
    have d : bh + 1 ≤ ah := by omega
    go_enter Trym.func48, Trym.ntmps48
    go_wp2
    go_ret2
    exact ⟨⟨_, _, rfl, ⟨by omega, by omega, by omega, by omega, by omega⟩⟩, rfl⟩
  · have d : bh ≤ ah := by omega
    go_enter Trym.func48, Trym.ntmps48
    go_wp2
    go_ret2
    exact ⟨⟨_, _, rfl, ⟨by omega, by omega, by omega, by omega, by omega⟩⟩, rfl⟩

set_option maxHeartbeats 1000000 in
theorem subSat_any (a b : Int) (ha : I64 a) (hb : I64 b) (w : World) :
    Calls Trym.prog 40 #[.int .i64 a, .int .i64 b] w fun e w' => e = .returned (.int .i64 (satSub a b)) ∧ w = w' := by
  obtain ⟨a0, a1⟩ := ha
  obtain ⟨b0, b1⟩ := hb
  by_cases c : 9223372036854775807 < a - b
  · have e : satSub a b = 9223372036854775807 := by unfold satSub; rw [if_pos c]
    have e2 : wrap64 (a - b) = a - b - 18446744073709551616 := by unfold wrap64; omega
    have d1 : 0 ≤ a := by omega
    have d2 : b < 0 := by omega
    rw [e]
    go_enter Trym.func40, Trym.ntmps40
    go_wp2
    go_ret
    exact ⟨rfl, rfl⟩
  by_cases d : a - b < -9223372036854775808
  · have e : satSub a b = -9223372036854775808 := by unfold satSub; rw [if_neg c, if_pos d]
    have e2 : wrap64 (a - b) = a - b + 18446744073709551616 := by unfold wrap64; omega
    have d1 : a < 0 := by omega
    have d2 : 0 ≤ b := by omega
    rw [e]
    go_enter Trym.func40, Trym.ntmps40
    go_wp2
    go_ret
    exact ⟨rfl, rfl⟩
  · have e : satSub a b = a - b := by unfold satSub; rw [if_neg c, if_neg d]
    rw [e]
    go_enter Trym.func40, Trym.ntmps40
    go_wp2
    all_goals (go_ret; exact ⟨rfl, rfl⟩)

/-- What zzClampFloor gives: r, the greatest of 1 .. 200 with r * D ≤ X (or 1). -/
structure Clamp (D X r : Int) : Prop where
  r0 : 1 ≤ r
  r1 : r ≤ 200
  lo : 2 ≤ r → r * D ≤ X
  hi : r < 200 → X < (r + 1) * D

set_option maxHeartbeats 2000000 in
theorem clamp_any (dh dl D xh xl X : Int) (hD : Is128 dh dl D) (hX : Is128 xh xl X) (w : World) :
    Calls Trym.prog 46 #[.int .u64 dh, .int .u64 dl, .int .u64 xh, .int .u64 xl] w fun e w' => (∃ r, e = .returned (.int .i64 r) ∧ Clamp D X r) ∧ w = w' := by
  have HD : Hid (Is128 dh dl D) := hD
  have HX : Hid (Is128 xh xl X) := hX
  have hX1 : X < 340282366920938463463374607431768211456 := by have := hX.h1; have := hX.l1; have := hX.eq; omega
  clear hD hX
  go_enter Trym.func46, Trym.ntmps46
  go_wp2_with fail
  go_loopw [9, 10, 11, 12] (fun r ah al k wr => ∃ K h l : Int, 2 ≤ K ∧ K ≤ 201 ∧ k = .int .i64 K ∧ r = .int .i64 (K - 1) ∧ ah = .int .u64 h ∧ al = .int .u64 l ∧ Is128 h l ((K - 1) * D) ∧ (3 ≤ K → (K - 1) * D ≤ X) ∧ w = wr) (fun _ _ _ k _ => 201 - (intOf k).toNat)
  case atStart =>
    refine ⟨2, dh, dl, by omega, by omega, rfl, rfl, rfl, rfl, ?_, fun h => by omega, rfl⟩
    have e : (2 - 1 : Int) * D = D := by omega
    rw [e]; exact HD.out
  case round =>
    obtain ⟨K, h, l, k0, k1, rfl, rfl, rfl, rfl, hA, hle, hw⟩ := hrel
    subst hw
    have HA : Hid (Is128 h l ((K - 1) * D)) := hA
    have HL : Hid (3 ≤ K → (K - 1) * D ≤ X) := hle
    have eK : (K - 1) * D + D = K * D := by rw [Int.sub_mul]; omega
    have eK' : (K - 1 + 1) * D = K * D := by rw [Int.sub_add_cancel]
    have HK : Hid ((K - 1) * D + D = K * D ∧ (K - 1 + 1) * D = K * D) := ⟨eK, eK'⟩
    clear hA hle eK eK'
    by_cases hlt : K ≤ 200
    · go_wp2_with fail
      refine (add_any128 h l _ dh dl _ HA.out HD.out _).mono ?_
      rintro e w' ⟨⟨h', l', ⟨rfl, hov⟩ | ⟨rfl, hs⟩⟩, hw⟩
      · subst hw
        rw [HK.out.1] at hov
        have HC : Hid (Clamp D X (K - 1)) := ⟨by omega, by omega, fun h2 => HL.out (by omega), fun _ => by rw [HK.out.2]; omega⟩
        clear hov
        go_wp2_with fail
        go_ret
        exact ⟨⟨_, rfl, HC.out⟩, rfl⟩
      · subst hw
        rw [HK.out.1] at hs
        have HS : Hid (Is128 h' l' (K * D)) := hs
        clear hs
        go_wp2_with fail
        by_cases hc : K * D ≤ X
        · have HC : Hid (K * D ≤ X) := hc
          refine (le_any h' l' _ xh xl _ HS.out HX.out _).mono ?_
          rintro e w' ⟨rfl, hw⟩
          subst hw
          rw [show decide (K * D ≤ X) = true by simp [hc]]
          clear hc
          go_wp2
          go_roundw
          case rel => 
            refine ⟨K + 1, h', l', by omega, by omega, by go_num, by go_num, rfl, rfl, ?_, fun _ => ?_, trivial⟩
            · rw [Int.add_sub_cancel]; exact HS.out
            · rw [Int.add_sub_cancel]; exact HC.out
          case measure => simp [intOf]; omega
        · have HC : Hid (Clamp D X (K - 1)) := ⟨by omega, by omega, fun h2 => HL.out (by omega), fun _ => by rw [HK.out.2]; omega⟩
          refine (le_any h' l' _ xh xl _ HS.out HX.out _).mono ?_
          rintro e w' ⟨rfl, hw⟩
          subst hw
          rw [show decide (K * D ≤ X) = false by simpa using hc]
          clear hc
          go_wp2
          go_ret
          exact ⟨⟨_, rfl, HC.out⟩, rfl⟩
    · have e : K = 201 := by omega
      subst e
      have HC : Hid (Clamp D X (201 - 1)) := ⟨by omega, by omega, fun _ => HL.out (by omega), fun h => by omega⟩
      go_wp2_with fail
      go_ret
      exact ⟨⟨_, rfl, HC.out⟩, rfl⟩
end Go.Proofs.Qxb6603509aMods
