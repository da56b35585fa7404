import Derived.Test.Qxb6603509aModsRows
import Derived.WalkKit
import Derived.WalkSpells
import Derived.WalkLawsBesides
import Derived.Laws.BitsAllLaws
import Derived.RowKit3
namespace Go.Proofs.Qxb6603509aMods
open Go.RowKit

theorem and_lo (ns : Int) (h0 : 0 ≤ ns) (h1 : ns < 1000000000) : bits .and .u64 ns 1073741823 = ns := by
  rw [u64_and ns 1073741823 h0 (by omega) (by decide) (by decide)]
  have : (1073741823 : Int).toNat = 2 ^ 30 - 1 := by decide
  rw [this, Nat.and_two_pow_sub_one_eq_mod]
  omega
theorem and_mono (ns : Int) (h0 : 0 ≤ ns) (h1 : ns < 1000000000) : bits .and .u64 ns 9223372036854775808 = 0 := by
  rw [u64_and ns 9223372036854775808 h0 (by omega) (by decide) (by decide)]
  have : (9223372036854775808 : Int).toNat = 2 ^ 63 := by decide
  rw [this, nat_bit]
  have : ns.toNat / 2 ^ 63 = 0 := Nat.div_eq_of_lt (by omega)
  rw [this]; rfl
theorem andNot_lo (ns : Int) (h0 : 0 ≤ ns) (h1 : ns < 1000000000) : bits .andNot .u64 ns 1073741823 = 0 := by
  rw [u64_andNot ns 1073741823 h0 (by omega) (by decide) (by decide)]
  have e : (18446744073709551615 - (1073741823 : Int).toNat) = (2 ^ 34 - 1) * 2 ^ 30 := by decide
  rw [e]
  have : ns.toNat &&& (2 ^ 34 - 1) * 2 ^ 30 = 0 := by
    apply Nat.eq_of_testBit_eq
    intro i
    rw [Nat.testBit_and, Nat.zero_testBit]
    by_cases hi : i < 30
    · rw [show ((2 ^ 34 - 1) * 2 ^ 30 : Nat) = 2 ^ 30 * (2 ^ 34 - 1) from by decide, Nat.testBit_two_pow_mul]
      simp; omega
    · rw [Nat.testBit_lt_two_pow (x := ns.toNat) (i := i)]; rfl
      exact Nat.lt_of_lt_of_le (by omega : ns.toNat < 2 ^ 30) (Nat.pow_le_pow_right (by decide) (by omega))
  rw [this]; rfl
theorem or_zero (ns : Int) (h0 : 0 ≤ ns) (h1 : ns < 1000000000) : bits .or .u64 0 ns = ns := by
  rw [u64_or 0 ns (by decide) (by decide) h0 (by omega)]
  simp; omega

set_option maxHeartbeats 400000 in
theorem nsec_any (b : Nat) (ns : Int) (h0 : 0 ≤ ns) (h1 : ns < 1000000000) (w : World) (hc : w.cell? ⟨b, 0, none⟩ = some (.int .u64 ns)) :
    Calls Trym.prog 58 #[.pointer (some ⟨b, 0, none⟩)] w fun e w' => e = .returned (.int .i32 ns) ∧ w' = w := by
  have e1 := and_lo ns h0 h1
  go_enter Trym.func58, Trym.ntmps58
  go_wp2
  go_ret
  exact ⟨rfl, rfl⟩

set_option maxHeartbeats 400000 in
theorem sec_any (b : Nat) (ns s : Int) (h0 : 0 ≤ ns) (h1 : ns < 1000000000) (w : World) (hc : w.cell? ⟨b, 0, none⟩ = some (.int .u64 ns)) (hc1 : w.cell? ⟨b, 1, none⟩ = some (.int .i64 s)) :
    Calls Trym.prog 62 #[.pointer (some ⟨b, 0, none⟩)] w fun e w' => e = .returned (.int .i64 s) ∧ w' = w := by
  have e1 := and_mono ns h0 h1
  go_enter Trym.func62, Trym.ntmps62
  go_wp2
  go_ret
  exact ⟨rfl, rfl⟩

/-- addSec on a time without a monotonic reading, no overflow. -/
theorem addSec_any (b : Nat) (ns s d : Int) (h0 : 0 ≤ ns) (h1 : ns < 1000000000) (hs0 : -1099511627776 ≤ s) (hs1 : s ≤ 1099511627776) (hd0 : -1099511627776 ≤ d) (hd1 : d ≤ 1099511627776)
    (w : World) (hc : w.cell? ⟨b, 0, none⟩ = some (.int .u64 ns)) (hc1 : w.cell? ⟨b, 1, none⟩ = some (.int .i64 s)) (hf1 : w.frozen? ⟨b, 1, none⟩ = false) :
    Calls Trym.prog 59 #[.pointer (some ⟨b, 0, none⟩), .int .i64 d] w fun e w' => e = .returned (.tuple #[]) ∧ w' = w.setCell ⟨b, 1, none⟩ (.int .i64 (s + d)) := by
  have e1 := and_mono ns h0 h1
  have e2 : (decide (s < s + d) == decide (0 < d)) = true := by
    by_cases h : 0 < d
    · have : s < s + d := by omega
      simp [h, this]
    · have : ¬ s < s + d := by omega
      simp [h, this]
  go_enter Trym.func59, Trym.ntmps59
  go_wp2
  go_end0
  exact ⟨rfl, rfl⟩

/-- A time.Time without a monotonic reading. -/
def tv (ns s : Int) : Value := .agg #[.int .u64 ns, .int .i64 s, .pointer none]

theorem gt_same (s q : Int) : (decide (s < s + q) == decide (0 < q)) = true := by
  by_cases h : 0 < q
  · have : s < s + q := by omega
    simp [h, this]
  · have : ¬ s < s + q := by omega
    simp [h, this]

theorem gt_same' (s q : Int) : decide (s < s + (q - 1)) = decide (1 < q) := by
  by_cases h : 1 < q
  · have : s < s + (q - 1) := by omega
    simp [h, this]
  · have : ¬ s < s + (q - 1) := by omega
    simp [h, this]

set_option maxHeartbeats 1000000 in
theorem add_mid (ns s d q r : Int) (hq : d.tdiv 1000000000 = q) (hr : d.tmod 1000000000 = r) (h0 : 0 ≤ ns) (h1 : ns < 1000000000) (hs0 : -549755813888 ≤ s) (hs1 : s ≤ 549755813888) (hq0 : -9223372037 ≤ q) (hq1 : q ≤ 9223372037) (hr0 : -1000000000 < r) (hr1 : r < 1000000000)
    (hc0 : 0 ≤ ns + r) (hc1 : ns + r < 1000000000) (w : World) :
    Calls Trym.prog 52 #[.agg #[.int .u64 ns, .int .i64 s, .pointer none], .int .i64 d] w fun e w' => e = .returned (tv (ns + r) (s + q)) ∧ Below w.heap.size w w' := by
  have e2 := and_lo ns h0 h1
  have e3 := andNot_lo ns h0 h1
  have e4 := or_zero (ns + r) hc0 hc1
  have e5 := and_mono (ns + r) hc0 hc1
  have e6 := gt_same s q
  go_enter Trym.func52, Trym.ntmps52
  go_wp2
  go_end0
  go_wp2
  exact bodyPost_ret (v := tv (ns + r) (s + q)) (by simp [results, Trym.results52, go_sem, tv]) rfl ⟨rfl, by repeat (first | exact Below.refl _ _ | refine Below.alloc ?_ (by simp) _ | refine Below.setCell ?_ (by simp) _)⟩

set_option maxHeartbeats 1000000 in
theorem add_hi (ns s d q r : Int) (hq : d.tdiv 1000000000 = q) (hr : d.tmod 1000000000 = r) (h0 : 0 ≤ ns) (h1 : ns < 1000000000) (hs0 : -549755813888 ≤ s) (hs1 : s ≤ 549755813888) (hq0 : -9223372037 ≤ q) (hq1 : q ≤ 9223372037) (hr0 : -1000000000 < r) (hr1 : r < 1000000000)
    (hc1 : 1000000000 ≤ ns + r) (w : World) :
    Calls Trym.prog 52 #[.agg #[.int .u64 ns, .int .i64 s, .pointer none], .int .i64 d] w fun e w' => e = .returned (tv (ns + r - 1000000000) (s + (q + 1))) ∧ Below w.heap.size w w' := by
  have e2 := and_lo ns h0 h1
  have e3 := andNot_lo ns h0 h1
  have e4 := or_zero (ns + r - 1000000000) (by omega) (by omega)
  have e5 := and_mono (ns + r - 1000000000) (by omega) (by omega)
  have e6 := gt_same s (q + 1)
  go_enter Trym.func52, Trym.ntmps52
  go_wp2
  go_end0
  go_wp2
  exact bodyPost_ret (v := tv (ns + r - 1000000000) (s + (q + 1))) (by simp [results, Trym.results52, go_sem, tv]) rfl ⟨rfl, by repeat (first | exact Below.refl _ _ | refine Below.alloc ?_ (by simp) _ | refine Below.setCell ?_ (by simp) _)⟩

set_option maxHeartbeats 1000000 in
theorem add_lo (ns s d q r : Int) (hq : d.tdiv 1000000000 = q) (hr : d.tmod 1000000000 = r) (h0 : 0 ≤ ns) (h1 : ns < 1000000000) (hs0 : -549755813888 ≤ s) (hs1 : s ≤ 549755813888) (hq0 : -9223372037 ≤ q) (hq1 : q ≤ 9223372037) (hr0 : -1000000000 < r) (hr1 : r < 1000000000)
    (hc1 : ns + r < 0) (w : World) :
    Calls Trym.prog 52 #[.agg #[.int .u64 ns, .int .i64 s, .pointer none], .int .i64 d] w fun e w' => e = .returned (tv (ns + r + 1000000000) (s + (q - 1))) ∧ Below w.heap.size w w' := by
  have e2 := and_lo ns h0 h1
  have e3 := andNot_lo ns h0 h1
  have e4 := or_zero (ns + r + 1000000000) (by omega) (by omega)
  have e5 := and_mono (ns + r + 1000000000) (by omega) (by omega)
  have e6 : (decide (s < s + (q - 1)) == decide (1 < q)) = true := by rw [gt_same' s q]; simp
  go_enter Trym.func52, Trym.ntmps52
  go_wp2
  go_end0
  go_wp2
  exact bodyPost_ret (v := tv (ns + r + 1000000000) (s + (q - 1))) (by simp [results, Trym.results52, go_sem, tv]) rfl ⟨rfl, by repeat (first | exact Below.refl _ _ | refine Below.alloc ?_ (by simp) _ | refine Below.setCell ?_ (by simp) _)⟩

/-- THE CONTRACT OF (time.Time).Add, at a time without a monotonic reading. -/
theorem add_any (ns s d : Int) (h0 : 0 ≤ ns) (h1 : ns < 1000000000) (hs0 : -549755813888 ≤ s) (hs1 : s ≤ 549755813888) (hd0 : -9223372036854775808 ≤ d) (hd1 : d ≤ 9223372036854775807) (w : World) :
    Calls Trym.prog 52 #[.agg #[.int .u64 ns, .int .i64 s, .pointer none], .int .i64 d] w fun e w' => e = .returned (tv ((ns + d) % 1000000000) (s + (ns + d) / 1000000000)) ∧ Below w.heap.size w w' := by
  have hdm := Int.mul_tdiv_add_tmod d 1000000000
  have hr1 := Int.tmod_lt_of_pos d (show (0:Int) < 1000000000 by decide)
  have hr0 : -1000000000 < d.tmod 1000000000 := by
    have := Int.tmod_lt_of_pos (-d) (show (0:Int) < 1000000000 by decide)
    rw [Int.neg_tmod] at this; omega
  generalize hq : d.tdiv 1000000000 = q at *
  generalize hr : d.tmod 1000000000 = r at *
  by_cases c1 : 1000000000 ≤ ns + r
  · have e1 : (ns + d) % 1000000000 = ns + r - 1000000000 := by omega
    have e2 : (ns + d) / 1000000000 = q + 1 := by omega
    rw [e1, e2]
    exact add_hi ns s d q r hq hr h0 h1 hs0 hs1 (by omega) (by omega) hr0 hr1 c1 w
  by_cases c2 : ns + r < 0
  · have e1 : (ns + d) % 1000000000 = ns + r + 1000000000 := by omega
    have e2 : (ns + d) / 1000000000 = q - 1 := by omega
    rw [e1, e2]
    exact add_lo ns s d q r hq hr h0 h1 hs0 hs1 (by omega) (by omega) hr0 hr1 c2 w
  · have e1 : (ns + d) % 1000000000 = ns + r := by omega
    have e2 : (ns + d) / 1000000000 = q := by omega
    rw [e1, e2]
    exact add_mid ns s d q r hq hr h0 h1 hs0 hs1 (by omega) (by omega) hr0 hr1 (by omega) (by omega) w
end Go.Proofs.Qxb6603509aMods
