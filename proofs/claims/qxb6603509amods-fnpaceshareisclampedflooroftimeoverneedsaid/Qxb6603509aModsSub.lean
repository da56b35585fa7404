import Derived.Test.Qxb6603509aModsTime
import Derived.Deep.RegionWith
import Derived.Deep.RegionHeld3
namespace Go.Proofs.Qxb6603509aMods
open Go.RowKit

theorem and_mono2 (a b : Int) (h0 : 0 ≤ a) (h1 : a < 1000000000) (h2 : 0 ≤ b) (h3 : b < 1000000000) : bits .and .u64 (bits .and .u64 a b) 9223372036854775808 = 0 := by
  have e := u64_and a b h0 (by omega) h2 (by omega)
  have hl : a.toNat &&& b.toNat ≤ a.toNat := Nat.and_le_left
  rw [e]
  exact and_mono _ (by omega) (by omega)

set_option maxHeartbeats 1000000 in
theorem equal_any (n1 s1 n2 s2 : Int) (h1 : 0 ≤ n1) (h1' : n1 < 1000000000) (h2 : 0 ≤ n2) (h2' : n2 < 1000000000) (w : World) :
    Calls Trym.prog 63 #[.agg #[.int .u64 n1, .int .i64 s1, .pointer none], .agg #[.int .u64 n2, .int .i64 s2, .pointer none]] w fun e w' => e = .returned (.bool (s1 == s2 && n1 == n2)) ∧ Below w.heap.size w w' := by
  have e1 := and_mono2 n1 n2 h1 h1' h2 h2'
  have e2 := and_mono n1 h1 h1'
  have e3 := and_mono n2 h2 h2'
  have e4 := and_lo n1 h1 h1'
  have e5 := and_lo n2 h2 h2'
  by_cases c : s1 = s2
  · have c1 : (s1 == s2) = true := by simp [c]
    have c2 : ∀ b, (true && b) = b := by simp
    rw [c1, c2]
    have hx : (s2 == s2) = true := by simp
    subst c
    go_enter Trym.func63, Trym.ntmps63
    go_wp2
    go_ret
    exact ⟨rfl, by repeat (first | exact Below.refl _ _ | refine Below.alloc ?_ (by simp) _ | refine Below.setCell ?_ (by simp) _)⟩
  · have c1 : (s1 == s2) = false := by simp [c]
    have c2 : ∀ b, (false && b) = false := by simp
    rw [c1, c2]
    go_enter Trym.func63, Trym.ntmps63
    go_wp2
    go_ret
    exact ⟨rfl, by repeat (first | exact Below.refl _ _ | refine Below.alloc ?_ (by simp) _ | refine Below.setCell ?_ (by simp) _)⟩

set_option maxHeartbeats 1000000 in
/-- Before, where the seconds differ. -/
theorem before_any (n1 s1 n2 s2 : Int) (h1 : 0 ≤ n1) (h1' : n1 < 1000000000) (h2 : 0 ≤ n2) (h2' : n2 < 1000000000) (hne : (s1 == s2) = false) (w : World) :
    Calls Trym.prog 64 #[.agg #[.int .u64 n1, .int .i64 s1, .pointer none], .agg #[.int .u64 n2, .int .i64 s2, .pointer none]] w fun e w' => e = .returned (.bool (decide (s1 < s2))) ∧ Below w.heap.size w w' := by
  have e1 := and_mono2 n1 n2 h1 h1' h2 h2'
  have e2 := and_mono n1 h1 h1'
  have e3 := and_mono n2 h2 h2'
  have e4 := and_lo n1 h1 h1'
  have e5 := and_lo n2 h2 h2'
  by_cases c : s1 < s2
  · go_enter Trym.func64, Trym.ntmps64
    go_wp2
    go_ret
    exact ⟨by simp [c], by repeat (first | exact Below.refl _ _ | refine Below.alloc ?_ (by simp) _ | refine Below.setCell ?_ (by simp) _)⟩
  · have c' : decide (s1 < s2) = false := by simpa using c
    go_enter Trym.func64, Trym.ntmps64
    go_wp2
    go_ret
    exact ⟨by simp, by repeat (first | exact Below.refl _ _ | refine Below.alloc ?_ (by simp) _ | refine Below.setCell ?_ (by simp) _)⟩

/-- What lies below is read as before: two rules for the walk. -/
theorem belowRules {W w1 : World} (hb : Below W.heap.size W w1) : (∀ b o, b < W.heap.size → w1.cell? ⟨b, o, none⟩ = W.cell? ⟨b, o, none⟩) ∧ (∀ b o, b < W.heap.size → w1.frozen? ⟨b, o, none⟩ = W.frozen? ⟨b, o, none⟩) :=
  ⟨fun b o h => hb.cell (p := ⟨b, o, none⟩) h, fun b o h => hb.frozen (p := ⟨b, o, none⟩) h⟩

theorem tv_eq (n s : Int) : tv n s = .agg #[.int .u64 n, .int .i64 s, .pointer none] := rfl

set_option maxHeartbeats 1000000 in
theorem sub_in (n1 s1 n2 s2 d : Int) (h1 : 0 ≤ n1) (h1' : n1 < 1000000000) (h2 : 0 ≤ n2) (h2' : n2 < 1000000000) (hd0 : -9223372036854775808 ≤ d) (hd1 : d ≤ 9223372036854775807)
    (hdw : wrap64 (wrap64 ((s1 - s2) * 1000000000) + (n1 - n2)) = d)
    (heq : (s2 + (n2 + d) / 1000000000 == s1 && (n2 + d) % 1000000000 == n1) = true)
    (a1 : -549755813888 ≤ s1) (a2 : s1 ≤ 549755813888) (a3 : -549755813888 ≤ s2) (a4 : s2 ≤ 549755813888) (w : World) :
    Calls Trym.prog 54 #[.agg #[.int .u64 n1, .int .i64 s1, .pointer none], .agg #[.int .u64 n2, .int .i64 s2, .pointer none]] w fun e w' => e = .returned (.int .i64 d) ∧ Below w.heap.size w w' := by
  have e1 := and_mono2 n1 n2 h1 h1' h2 h2'
  have e2 := and_mono n1 h1 h1'
  have e3 := and_mono n2 h2 h2'
  have e4 := and_lo n1 h1 h1'
  have e5 := and_lo n2 h2 h2'
  have b1 : 0 ≤ (n2 + d) % 1000000000 := by omega
  have b2 : (n2 + d) % 1000000000 < 1000000000 := by omega
  go_enter Trym.func54, Trym.ntmps54
  go_wp2
  go_region_held3 (fun W => (W.cell? ⟨w.heap.size, 0, none⟩ = some (.int .u64 n1) ∧ W.cell? ⟨w.heap.size, 1, none⟩ = some (.int .i64 s1) ∧ W.cell? ⟨w.heap.size, 2, none⟩ = some (.pointer none)) ∧ W.cell? ⟨w.heap.size + 1, 0, none⟩ = some (.int .u64 n2) ∧ W.cell? ⟨w.heap.size + 1, 1, none⟩ = some (.int .i64 s2) ∧ W.cell? ⟨w.heap.size + 1, 2, none⟩ = some (.pointer none)) (simp [go_sem, *])
    (first
    | (go_at_call 52; refine (add_any n2 s2 d h2 h2' a3 a4 hd0 hd1 _).mono ?_; rintro e w1 ⟨rfl, hb1⟩; rw [tv_eq]; obtain ⟨hc1, hf1⟩ := belowRules hb1; have hz1 : w.heap.size + 1 < w1.heap.size := (by have := hb1.size; simp at this; omega); have hz1' : w.heap.size < w1.heap.size := (by omega))
    | (go_at_call 63; refine (equal_any _ _ n1 s1 b1 b2 h1 h1' _).mono ?_; rintro e w2 ⟨rfl, hb2⟩; rw [heq]; obtain ⟨hc2, hf2⟩ := belowRules hb2))
  go_wp2
  go_ret
  exact ⟨rfl, (((Below.refl _ _).alloc (Nat.le_refl _) _).alloc (by simp) _).drew.trans ((hb1.mono (by simp; omega)).trans (hb2.mono (by omega)))⟩

set_option maxHeartbeats 1000000 in
theorem sub_over (n1 s1 n2 s2 d : Int) (h1 : 0 ≤ n1) (h1' : n1 < 1000000000) (h2 : 0 ≤ n2) (h2' : n2 < 1000000000) (hd0 : -9223372036854775808 ≤ d) (hd1 : d ≤ 9223372036854775807)
    (hdw : wrap64 (wrap64 ((s1 - s2) * 1000000000) + (n1 - n2)) = d)
    (heq : (s2 + (n2 + d) / 1000000000 == s1 && (n2 + d) % 1000000000 == n1) = false) (hne : (s1 == s2) = false) (hlt : decide (s1 < s2) = false)
    (a1 : -549755813888 ≤ s1) (a2 : s1 ≤ 549755813888) (a3 : -549755813888 ≤ s2) (a4 : s2 ≤ 549755813888) (w : World) :
    Calls Trym.prog 54 #[.agg #[.int .u64 n1, .int .i64 s1, .pointer none], .agg #[.int .u64 n2, .int .i64 s2, .pointer none]] w fun e w' => e = .returned (.int .i64 9223372036854775807) ∧ Below w.heap.size w w' := by
  have e1 := and_mono2 n1 n2 h1 h1' h2 h2'
  have e2 := and_mono n1 h1 h1'
  have e3 := and_mono n2 h2 h2'
  have e4 := and_lo n1 h1 h1'
  have e5 := and_lo n2 h2 h2'
  have b1 : 0 ≤ (n2 + d) % 1000000000 := by omega
  have b2 : (n2 + d) % 1000000000 < 1000000000 := by omega
  go_enter Trym.func54, Trym.ntmps54
  go_wp2
  go_region_held3 (fun W => (W.cell? ⟨w.heap.size, 0, none⟩ = some (.int .u64 n1) ∧ W.cell? ⟨w.heap.size, 1, none⟩ = some (.int .i64 s1) ∧ W.cell? ⟨w.heap.size, 2, none⟩ = some (.pointer none)) ∧ W.cell? ⟨w.heap.size + 1, 0, none⟩ = some (.int .u64 n2) ∧ W.cell? ⟨w.heap.size + 1, 1, none⟩ = some (.int .i64 s2) ∧ W.cell? ⟨w.heap.size + 1, 2, none⟩ = some (.pointer none)) (simp [go_sem, *])
    (first
    | (go_at_call 52; refine (add_any n2 s2 d h2 h2' a3 a4 hd0 hd1 _).mono ?_; rintro e w1 ⟨rfl, hb1⟩; rw [tv_eq]; obtain ⟨hc1, hf1⟩ := belowRules hb1; have hz1 : w.heap.size + 1 < w1.heap.size := (by have := hb1.size; simp at this; omega); have hz1' : w.heap.size < w1.heap.size := (by omega))
    | (go_at_call 63; refine (equal_any _ _ n1 s1 b1 b2 h1 h1' _).mono ?_; rintro e w2 ⟨rfl, hb2⟩; rw [heq]; obtain ⟨hc2, hf2⟩ := belowRules hb2))
  go_wp2_with (go_at_call 64; refine (before_any n1 s1 n2 s2 h1 h1' h2 h2' hne _).mono ?_; rintro e w3 ⟨rfl, hb3⟩; rw [hlt])
  go_ret
  exact ⟨rfl, (((Below.refl _ _).alloc (Nat.le_refl _) _).alloc (by simp) _).drew.trans ((hb1.mono (by simp; omega)).trans ((hb2.mono (by omega)).trans (hb3.mono (by have := hb2.size; omega))))⟩

set_option maxHeartbeats 1000000 in
theorem sub_under (n1 s1 n2 s2 d : Int) (h1 : 0 ≤ n1) (h1' : n1 < 1000000000) (h2 : 0 ≤ n2) (h2' : n2 < 1000000000) (hd0 : -9223372036854775808 ≤ d) (hd1 : d ≤ 9223372036854775807)
    (hdw : wrap64 (wrap64 ((s1 - s2) * 1000000000) + (n1 - n2)) = d)
    (heq : (s2 + (n2 + d) / 1000000000 == s1 && (n2 + d) % 1000000000 == n1) = false) (hne : (s1 == s2) = false) (hlt : decide (s1 < s2) = true)
    (a1 : -549755813888 ≤ s1) (a2 : s1 ≤ 549755813888) (a3 : -549755813888 ≤ s2) (a4 : s2 ≤ 549755813888) (w : World) :
    Calls Trym.prog 54 #[.agg #[.int .u64 n1, .int .i64 s1, .pointer none], .agg #[.int .u64 n2, .int .i64 s2, .pointer none]] w fun e w' => e = .returned (.int .i64 (-9223372036854775808)) ∧ Below w.heap.size w w' := by
  have e1 := and_mono2 n1 n2 h1 h1' h2 h2'
  have e2 := and_mono n1 h1 h1'
  have e3 := and_mono n2 h2 h2'
  have e4 := and_lo n1 h1 h1'
  have e5 := and_lo n2 h2 h2'
  have b1 : 0 ≤ (n2 + d) % 1000000000 := by omega
  have b2 : (n2 + d) % 1000000000 < 1000000000 := by omega
  go_enter Trym.func54, Trym.ntmps54
  go_wp2
  go_region_held3 (fun W => (W.cell? ⟨w.heap.size, 0, none⟩ = some (.int .u64 n1) ∧ W.cell? ⟨w.heap.size, 1, none⟩ = some (.int .i64 s1) ∧ W.cell? ⟨w.heap.size, 2, none⟩ = some (.pointer none)) ∧ W.cell? ⟨w.heap.size + 1, 0, none⟩ = some (.int .u64 n2) ∧ W.cell? ⟨w.heap.size + 1, 1, none⟩ = some (.int .i64 s2) ∧ W.cell? ⟨w.heap.size + 1, 2, none⟩ = some (.pointer none)) (simp [go_sem, *])
    (first
    | (go_at_call 52; refine (add_any n2 s2 d h2 h2' a3 a4 hd0 hd1 _).mono ?_; rintro e w1 ⟨rfl, hb1⟩; rw [tv_eq]; obtain ⟨hc1, hf1⟩ := belowRules hb1; have hz1 : w.heap.size + 1 < w1.heap.size := (by have := hb1.size; simp at this; omega); have hz1' : w.heap.size < w1.heap.size := (by omega))
    | (go_at_call 63; refine (equal_any _ _ n1 s1 b1 b2 h1 h1' _).mono ?_; rintro e w2 ⟨rfl, hb2⟩; rw [heq]; obtain ⟨hc2, hf2⟩ := belowRules hb2))
  go_wp2_with (go_at_call 64; refine (before_any n1 s1 n2 s2 h1 h1' h2 h2' hne _).mono ?_; rintro e w3 ⟨rfl, hb3⟩; rw [hlt])
  go_ret
  exact ⟨rfl, (((Below.refl _ _).alloc (Nat.le_refl _) _).alloc (by simp) _).drew.trans ((hb1.mono (by simp; omega)).trans ((hb2.mono (by omega)).trans (hb3.mono (by have := hb2.size; omega))))⟩

/-- t - u, held at the ends of int64. -/
def satSub (t u : Int) : Int := if 9223372036854775807 < t - u then 9223372036854775807 else if t - u < -9223372036854775808 then -9223372036854775808 else t - u

/-- THE CONTRACT OF (time.Time).Sub, at two times that are a Duration's Add to the zero time. -/
theorem sub_any (t u : Int) (ht0 : -9223372036854775808 ≤ t) (ht1 : t ≤ 9223372036854775807) (hu0 : -9223372036854775808 ≤ u) (hu1 : u ≤ 9223372036854775807) (w : World) :
    Calls Trym.prog 54 #[.agg #[.int .u64 (t % 1000000000), .int .i64 (t / 1000000000), .pointer none], .agg #[.int .u64 (u % 1000000000), .int .i64 (u / 1000000000), .pointer none]] w fun e w' => e = .returned (.int .i64 (satSub t u)) ∧ Below w.heap.size w w' := by
  unfold satSub
  by_cases c1 : 9223372036854775807 < t - u
  · rw [if_pos c1]
    refine sub_over (t % 1000000000) (t / 1000000000) (u % 1000000000) (u / 1000000000) (t - u - 18446744073709551616) (by omega) (by omega) (by omega) (by omega) (by omega) (by omega) ?_ ?_ ?_ ?_ (by omega) (by omega) (by omega) (by omega) w
    · unfold wrap64; omega
    · have : ¬ u / 1000000000 + (u % 1000000000 + (t - u - 18446744073709551616)) / 1000000000 = t / 1000000000 := by omega
      simp [this]
    · simp; omega
    · simp; omega
  rw [if_neg c1]
  by_cases c2 : t - u < -9223372036854775808
  · rw [if_pos c2]
    refine sub_under (t % 1000000000) (t / 1000000000) (u % 1000000000) (u / 1000000000) (t - u + 18446744073709551616) (by omega) (by omega) (by omega) (by omega) (by omega) (by omega) ?_ ?_ ?_ ?_ (by omega) (by omega) (by omega) (by omega) w
    · unfold wrap64; omega
    · have : ¬ u / 1000000000 + (u % 1000000000 + (t - u + 18446744073709551616)) / 1000000000 = t / 1000000000 := by omega
      simp [this]
    · simp; omega
    · simp; omega
  · rw [if_neg c2]
    refine sub_in (t % 1000000000) (t / 1000000000) (u % 1000000000) (u / 1000000000) (t - u) (by omega) (by omega) (by omega) (by omega) (by omega) (by omega) ?_ ?_ (by omega) (by omega) (by omega) (by omega) w
    · unfold wrap64; omega
    · have e1 : u / 1000000000 + (u % 1000000000 + (t - u)) / 1000000000 = t / 1000000000 := by omega
      have e2 : (u % 1000000000 + (t - u)) % 1000000000 = t % 1000000000 := by omega
      simp [e1, e2]
end Go.Proofs.Qxb6603509aMods
