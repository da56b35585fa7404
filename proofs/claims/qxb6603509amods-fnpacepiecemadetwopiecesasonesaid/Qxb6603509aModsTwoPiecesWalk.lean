/-
  THE WALK AND THE PLAIN LAW of 'FnPacePieceMadeTwoPiecesAsOne'.
-/
import Derived.Test.Qxb6603509aModsPace
namespace Go.Proofs.Qxb6603509aMods.fnPacePieceMadeTwoPiecesAsOne
open Go.RowKit
/-! ### THE PLAIN LAW -/
theorem two (l a b : Int) (hl : 0 ≤ l) (hl1 : l ≤ 9223372036854775807) (ha : 0 ≤ a) (hb : 0 ≤ b) (hab : a + b ≤ 9223372036854775807) : cutLeft (cutLeft l a) b = cutLeft l (a + b) := by
  unfold cutLeft wrap64
  split <;> split <;> split <;> omega
theorem made2 (m a b : Int) : wrap64 (wrap64 (m + a) + b) = wrap64 (m + (a + b)) := by
  unfold wrap64; omega
theorem cut_le (l n : Int) (hl : 0 ≤ l) (hl1 : l ≤ 9223372036854775807) (hn : 0 ≤ n) (hn1 : n ≤ 9223372036854775807) : 0 ≤ cutLeft l n ∧ cutLeft l n ≤ l ∧ ((cutLeft l n == 0) == decide (l ≤ n)) = true := by
  have key : cutLeft l n = if l ≤ n then 0 else l - n := by
    unfold cutLeft wrap64; split <;> split <;> omega
  rw [key]
  by_cases h : l ≤ n
  · simp [h]; omega
  · have e : ¬ l - n = 0 := by omega
    simp [h, e]; omega

theorem bounds (a : Int) (h : (Lit.int .i64 a).wf = true) : -9223372036854775808 ≤ a ∧ a ≤ 9223372036854775807 := by
  simpa [Lit.wf, IntKind.min, IntKind.max, IntKind.bits, IntKind.signed] using h

/-! ### THE WALK -/
set_option maxHeartbeats 2000000 in
theorem main (D l m t a b : Int) (hD0 : -9223372036854775808 ≤ D) (hD1 : D ≤ 9223372036854775807) (hl1 : l ≤ 9223372036854775807) (hl : 0 ≤ l) (ha : 0 ≤ a) (hb : 0 ≤ b) (hab : a ≤ 9223372036854775807 - b) (w : World) :
    Calls Trym.prog 6 #[.int .i64 D, .int .i64 l, .int .i64 m, .int .i64 t, .int .i64 a, .int .i64 b] w fun e w' => e = .returned (.bool true) ∧ Below w.heap.size w w' := by
  have H2 := two l a b hl hl1 ha hb (by omega)
  have HM := made2 m a b
  obtain ⟨g0, g1, g2⟩ := cut_le l (a + b) hl hl1 (by omega) (by omega)
  generalize hL : cutLeft l (a + b) = L at *
  have HL : Hid (cutLeft l (a + b) = L) := hL
  have H2' : Hid (cutLeft (cutLeft l a) b = L) := H2
  have HM' : Hid (wrap64 (wrap64 (m + a) + b) = wrap64 (m + (a + b))) := HM
  clear hL H2 HM
  go_enter Trym.func6, Trym.ntmps6
  go_wp2_with fail
  refine (newPace_any D l m t hD0 hD1 _).mono ?_
  rintro e w1 ⟨p, rfl, hp0, hp, hb1⟩
  go_wp2_with fail
  refine (newPace_any D l m t hD0 hD1 _).mono ?_
  rintro e w2 ⟨q, rfl, hq0, hq, hb2⟩
  have hp2 := hp.below hb2 hp.lt
  go_wp2_with fail
  refine (pieceMade_kept _ p D l m t a (cutLeft l a) (wrap64 (m + a)) rfl rfl hp2).mono ?_
  rintro e w3 ⟨rfl, hp3, ho3, hb3⟩
  have hq3 := ho3 q D l m t (by have := hp.lt; omega) hq
  clear ho3
  go_wp2_with fail
  refine (pieceMade_kept _ p D _ _ t b L (wrap64 (m + (a + b))) H2'.out HM'.out hp3).mono ?_
  rintro e w4 ⟨rfl, hp4, ho4, hb4⟩
  have hq4 := ho4 q D l m t (by have := hp.lt; omega) hq3
  clear ho4
  go_wp2_with fail
  refine (pieceMade_kept _ q D _ _ t (a + b) L (wrap64 (m + (a + b))) HL.out rfl hq4).mono ?_
  rintro e w5 ⟨rfl, hq5, ho5, hb5⟩
  have hp5 := ho5 p D _ _ t (by have := hp.lt; omega) hp4
  clear ho5
  go_wp2_with fail
  refine (paceMade_any _ p D L (wrap64 (m + (a + b))) t hp5).mono ?_
  rintro e _ ⟨rfl, rfl⟩
  go_wp2_with fail
  refine (paceMade_any _ q D L (wrap64 (m + (a + b))) t hq5).mono ?_
  rintro e _ ⟨rfl, rfl⟩
  go_wp2_with fail
  refine (paceLeft_any _ p D L (wrap64 (m + (a + b))) t hp5).mono ?_
  rintro e _ ⟨rfl, rfl⟩
  go_wp2_with fail
  refine (paceLeft_any _ q D L (wrap64 (m + (a + b))) t hq5).mono ?_
  rintro e _ ⟨rfl, rfl⟩
  go_wp2_with fail
  refine (paceTook_any _ p D L (wrap64 (m + (a + b))) t hp5).mono ?_
  rintro e _ ⟨rfl, rfl⟩
  go_wp2_with fail
  refine (paceTook_any _ q D L (wrap64 (m + (a + b))) t hq5).mono ?_
  rintro e _ ⟨rfl, rfl⟩
  go_wp2_with fail
  refine (paceDeadline_any _ p D L (wrap64 (m + (a + b))) t hD0 hD1 hp5).mono ?_
  rintro e w6 ⟨rfl, hb6⟩
  have hp6 := hp5.below hb6 hp5.lt
  have hq6 := hq5.below hb6 hq5.lt
  go_wp2_with fail
  refine (paceDeadline_any _ q D L (wrap64 (m + (a + b))) t hD0 hD1 hq6).mono ?_
  rintro e w7 ⟨rfl, hb7⟩
  have hp7 := hp6.below hb7 hp6.lt
  go_wp2_with fail
  refine (paceLeft_any _ p D L (wrap64 (m + (a + b))) t hp7).mono ?_
  rintro e _ ⟨rfl, rfl⟩
  go_wp2_with fail
  refine (paceMade_any _ p D L (wrap64 (m + (a + b))) t hp7).mono ?_
  rintro e _ ⟨rfl, rfl⟩
  go_wp2_with fail
  refine (paceTook_any _ p D L (wrap64 (m + (a + b))) t hp7).mono ?_
  rintro e _ ⟨rfl, rfl⟩
  go_wp2_with fail
  refine (paceDeadline_any _ p D L (wrap64 (m + (a + b))) t hD0 hD1 hp7).mono ?_
  rintro e w8 ⟨rfl, hb8⟩
  go_wp2_with fail
  go_ret
  have z1 := hb1.size
  have z2 := hb2.size
  have z3 := (hb3 p (Nat.le_refl _)).size
  have z4 := (hb4 p (Nat.le_refl _)).size
  have z5 := (hb5 q (Nat.le_refl _)).size
  have z6 := hb6.size
  have z7 := hb7.size
  refine ⟨rfl, ?_⟩
  exact hb1.trans ((hb2.mono z1).trans ((hb3 _ hp0).trans ((hb4 _ hp0).trans ((hb5 _ (by omega)).trans ((hb6.mono (by omega)).trans ((hb7.mono (by omega)).trans (hb8.mono (by omega))))))))

theorem walk (a0 : Int) (a1 : Int) (a2 : Int) (a3 : Int) (a4 : Int) (a5 : Int) (w0 : (Lit.int .i64 a0).wf = true) (w1 : (Lit.int .i64 a1).wf = true) (w4 : (Lit.int .i64 a4).wf = true) (w5 : (Lit.int .i64 a5).wf = true) (w : World) :
    Calls Trym.prog 6 #[.int .i64 a0, .int .i64 a1, .int .i64 a2, .int .i64 a3, .int .i64 a4, .int .i64 a5] w fun e w' => e = .returned (.bool true) ∧ Below w.heap.size w w' := by
  obtain ⟨p0, p1⟩ := bounds a0 w0
  obtain ⟨q0, q1⟩ := bounds a1 w1
  obtain ⟨r0, r1⟩ := bounds a4 w4
  obtain ⟨s0, s1⟩ := bounds a5 w5
  by_cases c1 : a1 < 0
  · go_enter Trym.func6, Trym.ntmps6
    go_wp2
    go_ret
    exact ⟨rfl, Below.refl _ _⟩
  by_cases c2 : a4 < 0
  · go_enter Trym.func6, Trym.ntmps6
    go_wp2
    go_ret
    exact ⟨rfl, Below.refl _ _⟩
  by_cases c3 : a5 < 0
  · go_enter Trym.func6, Trym.ntmps6
    go_wp2
    go_ret
    exact ⟨rfl, Below.refl _ _⟩
  by_cases c4 : 9223372036854775807 - a5 < a4
  · go_enter Trym.func6, Trym.ntmps6
    go_wp2
    go_ret
    exact ⟨rfl, Below.refl _ _⟩
  · exact main a0 a1 a2 a3 a4 a5 p0 p1 q1 (by omega) (by omega) (by omega) (by omega) w
end Go.Proofs.Qxb6603509aMods.fnPacePieceMadeTwoPiecesAsOne
