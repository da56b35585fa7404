import Derived.Test.Qxb6603509aModsPace
import Derived.Test.Qxb6603509aModsFloat
import Derived.Deep.QuietTactic
import Derived.BigQuiet
namespace Go.Proofs.Qxb6603509aMods
open Go.RowKit

theorem floatOfInt_fI (n : Int) : floatOfInt .f64 n = Fl.fI n := rfl
theorem fI_floatOfInt (n : Int) : Fl.fI n = floatOfInt .f64 n := rfl

theorem drewN_below (B : Nat) (w : World) (n : Nat) : Below B w (w.drewN n) := ⟨rfl, rfl, rfl, Nat.le_refl _, fun _ _ => rfl⟩
theorem run_max_float {P : Program} (w : World) (ts : Array TypeId) (t : TypeId) (x y r : Nat) (h : Fl.maxB x y = some r) : (Builtin.max_ ts t #[.float .f64 x, .float .f64 y]).run P w = .ok (.float .f64 r) w := by
  have hf : FloatKind.f64.format = Ieee.double := rfl
  unfold Fl.maxB at h
  cases ho : Ieee.double.order x y with
  | none => rw [ho] at h; cases h
  | some o =>
    rw [ho] at h
    cases o <;> simp only [Option.some.injEq] at h <;> subst h <;> simp [Builtin.max_, Builtin.max2, hf, ho, FloatKind.decode]
theorem run_min_float {P : Program} (w : World) (ts : Array TypeId) (t : TypeId) (x y r : Nat) (h : Fl.minB x y = some r) : (Builtin.min_ ts t #[.float .f64 x, .float .f64 y]).run P w = .ok (.float .f64 r) w := by
  have hf : FloatKind.f64.format = Ieee.double := rfl
  unfold Fl.minB at h
  cases ho : Ieee.double.order x y with
  | none => rw [ho] at h; cases h
  | some o =>
    rw [ho] at h
    cases o <;> simp only [Option.some.injEq] at h <;> subst h <;> simp [Builtin.min_, Builtin.min2, hf, ho, FloatKind.decode]


set_option maxHeartbeats 1000000 in
theorem share_late (w : World) (b : Nat) (D l m t u : Int) (h0 : -9223372036854775808 ≤ D) (h1 : D ≤ 9223372036854775807) (u0 : -9223372036854775808 ≤ u) (u1 : u ≤ 9223372036854775807) (hp : PaceAt w b D l m t)
    (hb : satSub D u ≤ 0) :
    Calls Trym.prog 55 #[.pointer (some ⟨b, 0, none⟩), .agg #[.int .u64 (u % 1000000000), .int .i64 (u / 1000000000), .pointer none]] w fun e w' => e = .returned (.int .i64 1) ∧ Below w.heap.size w w' := by
  obtain ⟨c0, c1, c2, c3, c4, c5, f3, f4, lt⟩ := hp
  have ne : ¬ b = w.heap.size := by omega
  go_enter Trym.func55, Trym.ntmps55
  go_wp2
  go_region_held3 (fun W => (W.cell? ⟨b, 0, none⟩ = some (.int .u64 (D % 1000000000)) ∧ W.cell? ⟨b, 1, none⟩ = some (.int .i64 (D / 1000000000)) ∧ W.cell? ⟨b, 2, none⟩ = some (.pointer none) ∧ W.cell? ⟨b, 3, none⟩ = some (.int .i64 l) ∧ W.cell? ⟨b, 4, none⟩ = some (.int .i64 m) ∧ W.cell? ⟨b, 5, none⟩ = some (.int .i64 t)) ∧ W.cell? ⟨w.heap.size, 0, none⟩ = some (.int .u64 (u % 1000000000)) ∧ W.cell? ⟨w.heap.size, 1, none⟩ = some (.int .i64 (u / 1000000000)) ∧ W.cell? ⟨w.heap.size, 2, none⟩ = some (.pointer none)) (simp [go_sem, *])
    (first
    | (go_at_call 54; refine (sub_any D u h0 h1 u0 u1 _).mono ?_; rintro e w1 ⟨rfl, hb1⟩; obtain ⟨hc1, hf1⟩ := belowRules hb1; have hz1 : w.heap.size < w1.heap.size := (by have := hb1.size; simp at this; omega); have hz2 : b < w1.heap.size := (by omega); have hz3 : b < w.heap.size + 1 := (by omega)))
  go_wp2
  go_ret
  exact ⟨rfl, (((Below.refl _ _).alloc (Nat.le_refl _) _).drew).trans (hb1.mono (by simp))⟩

set_option maxHeartbeats 1000000 in
theorem share_unmade (w : World) (b : Nat) (D l m t u : Int) (h0 : -9223372036854775808 ≤ D) (h1 : D ≤ 9223372036854775807) (u0 : -9223372036854775808 ≤ u) (u1 : u ≤ 9223372036854775807) (hp : PaceAt w b D l m t)
    (hb : 0 < satSub D u) (hm : (m == 0) = true) :
    Calls Trym.prog 55 #[.pointer (some ⟨b, 0, none⟩), .agg #[.int .u64 (u % 1000000000), .int .i64 (u / 1000000000), .pointer none]] w fun e w' => e = .returned (.int .i64 200) ∧ Below w.heap.size w w' := by
  obtain ⟨c0, c1, c2, c3, c4, c5, f3, f4, lt⟩ := hp
  have ne : ¬ b = w.heap.size := by omega
  go_enter Trym.func55, Trym.ntmps55
  go_wp2
  go_region_held3 (fun W => (W.cell? ⟨b, 0, none⟩ = some (.int .u64 (D % 1000000000)) ∧ W.cell? ⟨b, 1, none⟩ = some (.int .i64 (D / 1000000000)) ∧ W.cell? ⟨b, 2, none⟩ = some (.pointer none) ∧ W.cell? ⟨b, 3, none⟩ = some (.int .i64 l) ∧ W.cell? ⟨b, 4, none⟩ = some (.int .i64 m) ∧ W.cell? ⟨b, 5, none⟩ = some (.int .i64 t)) ∧ W.cell? ⟨w.heap.size, 0, none⟩ = some (.int .u64 (u % 1000000000)) ∧ W.cell? ⟨w.heap.size, 1, none⟩ = some (.int .i64 (u / 1000000000)) ∧ W.cell? ⟨w.heap.size, 2, none⟩ = some (.pointer none)) (simp [go_sem, *])
    (first
    | (go_at_call 54; refine (sub_any D u h0 h1 u0 u1 _).mono ?_; rintro e w1 ⟨rfl, hb1⟩; obtain ⟨hc1, hf1⟩ := belowRules hb1; have hz1 : w.heap.size < w1.heap.size := (by have := hb1.size; simp at this; omega); have hz2 : b < w1.heap.size := (by omega); have hz3 : b < w.heap.size + 1 := (by omega)))
  go_wp2
  go_ret
  exact ⟨rfl, (((Below.refl _ _).alloc (Nat.le_refl _) _).drew).trans (hb1.mono (by simp))⟩

set_option maxHeartbeats 1000000 in
theorem share_made (w : World) (b : Nat) (D l m t u : Int) (h0 : -9223372036854775808 ≤ D) (h1 : D ≤ 9223372036854775807) (u0 : -9223372036854775808 ≤ u) (u1 : u ≤ 9223372036854775807) (hp : PaceAt w b D l m t)
    (hb : 0 < satSub D u) (hm : (m == 0) = false) (hl : 1 ≤ l) (r1 nd r3 mx mn : Nat) (k : Int) (q1 : floatBits .quo .f64 (floatOfInt .f64 t) (floatOfInt .f64 m) = some r1) (q2 : floatBits .mul .f64 r1 (floatOfInt .f64 l) = some nd) (q3 : floatBits .quo .f64 (floatOfInt .f64 (satSub D u)) nd = some r3)
    (q4 : Fl.maxB r3 4607182418800017408 = some mx) (q5 : Fl.minB mx 4641240890982006784 = some mn) (q6 : floatToIntVal .f64 mn .i64 = some k) :
    Calls Trym.prog 55 #[.pointer (some ⟨b, 0, none⟩), .agg #[.int .u64 (u % 1000000000), .int .i64 (u / 1000000000), .pointer none]] w fun e w' => e = .returned (.int .i64 k) ∧ Below w.heap.size w w' := by
  have x1 := fun w => run_float_arith (P := Trym.prog) w .quo 103 .f64 _ _ r1 q1
  have x2 := fun w => run_float_arith (P := Trym.prog) w .mul 103 .f64 _ _ nd q2
  have x3 := fun w => run_float_arith (P := Trym.prog) w .quo 103 .f64 _ _ r3 q3
  have x4 := fun w => run_max_float (P := Trym.prog) w #[103, 103] 103 _ _ mx q4
  have x5 := fun w => run_min_float (P := Trym.prog) w #[103, 103] 103 _ _ mn q5
  have x6 := fun w => run_convert_float_int (P := Trym.prog) w 103 3 .f64 .i64 mn k (by rw [Trym.underlying103]; rfl) Trym.underlying3 q6
  clear q1 q2 q3 q4 q5 q6
  obtain ⟨c0, c1, c2, c3, c4, c5, f3, f4, lt⟩ := hp
  have ne : ¬ b = w.heap.size := by omega
  go_enter Trym.func55, Trym.ntmps55
  go_wp2
  go_region_held3 (fun W => (W.cell? ⟨b, 0, none⟩ = some (.int .u64 (D % 1000000000)) ∧ W.cell? ⟨b, 1, none⟩ = some (.int .i64 (D / 1000000000)) ∧ W.cell? ⟨b, 2, none⟩ = some (.pointer none) ∧ W.cell? ⟨b, 3, none⟩ = some (.int .i64 l) ∧ W.cell? ⟨b, 4, none⟩ = some (.int .i64 m) ∧ W.cell? ⟨b, 5, none⟩ = some (.int .i64 t)) ∧ W.cell? ⟨w.heap.size, 0, none⟩ = some (.int .u64 (u % 1000000000)) ∧ W.cell? ⟨w.heap.size, 1, none⟩ = some (.int .i64 (u / 1000000000)) ∧ W.cell? ⟨w.heap.size, 2, none⟩ = some (.pointer none)) (simp [go_sem, *])
    (first
    | (go_at_call 54; refine (sub_any D u h0 h1 u0 u1 _).mono ?_; rintro e w1 ⟨rfl, hb1⟩; obtain ⟨hc1, hf1⟩ := belowRules hb1; have hz1 : w.heap.size < w1.heap.size := (by have := hb1.size; simp at this; omega); have hz2 : b < w1.heap.size := (by omega); have hz3 : b < w.heap.size + 1 := (by omega)))
  go_wp2
  go_quiet (fail)
  go_wp2
  go_ret
  exact ⟨rfl, ((((Below.refl _ _).alloc (Nat.le_refl _) _).drew).trans (hb1.mono (by simp))).trans (drewN_below _ _ _)⟩

set_option maxHeartbeats 1000000 in
theorem share_made1 (w : World) (b : Nat) (D l m t u : Int) (h0 : -9223372036854775808 ≤ D) (h1 : D ≤ 9223372036854775807) (u0 : -9223372036854775808 ≤ u) (u1 : u ≤ 9223372036854775807) (hp : PaceAt w b D l m t)
    (hb : 0 < satSub D u) (hm : (m == 0) = false) (hl : l < 1) (r1 nd r3 mx mn : Nat) (k : Int) (q1 : floatBits .quo .f64 (floatOfInt .f64 t) (floatOfInt .f64 m) = some r1) (q2 : floatBits .mul .f64 r1 (floatOfInt .f64 1) = some nd) (q3 : floatBits .quo .f64 (floatOfInt .f64 (satSub D u)) nd = some r3)
    (q4 : Fl.maxB r3 4607182418800017408 = some mx) (q5 : Fl.minB mx 4641240890982006784 = some mn) (q6 : floatToIntVal .f64 mn .i64 = some k) :
    Calls Trym.prog 55 #[.pointer (some ⟨b, 0, none⟩), .agg #[.int .u64 (u % 1000000000), .int .i64 (u / 1000000000), .pointer none]] w fun e w' => e = .returned (.int .i64 k) ∧ Below w.heap.size w w' := by
  have x1 := fun w => run_float_arith (P := Trym.prog) w .quo 103 .f64 _ _ r1 q1
  have x2 := fun w => run_float_arith (P := Trym.prog) w .mul 103 .f64 _ _ nd q2
  have x3 := fun w => run_float_arith (P := Trym.prog) w .quo 103 .f64 _ _ r3 q3
  have x4 := fun w => run_max_float (P := Trym.prog) w #[103, 103] 103 _ _ mx q4
  have x5 := fun w => run_min_float (P := Trym.prog) w #[103, 103] 103 _ _ mn q5
  have x6 := fun w => run_convert_float_int (P := Trym.prog) w 103 3 .f64 .i64 mn k (by rw [Trym.underlying103]; rfl) Trym.underlying3 q6
  clear q1 q2 q3 q4 q5 q6
  obtain ⟨c0, c1, c2, c3, c4, c5, f3, f4, lt⟩ := hp
  have ne : ¬ b = w.heap.size := by omega
  go_enter Trym.func55, Trym.ntmps55
  go_wp2
  go_region_held3 (fun W => (W.cell? ⟨b, 0, none⟩ = some (.int .u64 (D % 1000000000)) ∧ W.cell? ⟨b, 1, none⟩ = some (.int .i64 (D / 1000000000)) ∧ W.cell? ⟨b, 2, none⟩ = some (.pointer none) ∧ W.cell? ⟨b, 3, none⟩ = some (.int .i64 l) ∧ W.cell? ⟨b, 4, none⟩ = some (.int .i64 m) ∧ W.cell? ⟨b, 5, none⟩ = some (.int .i64 t)) ∧ W.cell? ⟨w.heap.size, 0, none⟩ = some (.int .u64 (u % 1000000000)) ∧ W.cell? ⟨w.heap.size, 1, none⟩ = some (.int .i64 (u / 1000000000)) ∧ W.cell? ⟨w.heap.size, 2, none⟩ = some (.pointer none)) (simp [go_sem, *])
    (first
    | (go_at_call 54; refine (sub_any D u h0 h1 u0 u1 _).mono ?_; rintro e w1 ⟨rfl, hb1⟩; obtain ⟨hc1, hf1⟩ := belowRules hb1; have hz1 : w.heap.size < w1.heap.size := (by have := hb1.size; simp at this; omega); have hz2 : b < w1.heap.size := (by omega); have hz3 : b < w.heap.size + 1 := (by omega)))
  go_wp2
  go_quiet (fail)
  go_wp2
  go_ret
  exact ⟨rfl, ((((Below.refl _ _).alloc (Nat.le_refl _) _).drew).trans (hb1.mono (by simp))).trans (drewN_below _ _ _)⟩

/-- max(left, 1). -/
def lm (l : Int) : Int := if l < 1 then 1 else l
theorem lm_ge (l : Int) : 1 ≤ lm l := by unfold lm; split <;> omega
theorem lm_le (l : Int) (h : l ≤ 9223372036854775807) : lm l ≤ 9223372036854775807 := by unfold lm; split <;> omega

/-- WHAT share RETURNS, as a plain function of before, left, made, took. -/
def shareVal (before l m t : Int) : Int :=
  if before ≤ 0 then 1 else if m = 0 then 200 else ((Fl.needB t m (lm l)).bind (Fl.shareB (Fl.fI before))).getD 1

/-- An int's range. -/
def I64 (n : Int) : Prop := -9223372036854775808 ≤ n ∧ n ≤ 9223372036854775807

theorem share_steps (before l m t : Int) (hb : 0 < before) (b1 : before ≤ 9223372036854775807) (hm : m ≠ 0) (hM : I64 m) (hT : I64 t) (hL : I64 l) :
    ∃ nd k, Fl.needB t m (lm l) = some nd ∧ Fl.shareB (Fl.fI before) nd = some k ∧ 1 ≤ k ∧ k ≤ 200 := by
  by_cases ht : t = 0
  · subst ht
    obtain ⟨nd, h1, h2⟩ := Fl.need_zero m (lm l) hm hM.1 hM.2 (lm_ge l) (lm_le l hL.2)
    refine ⟨nd, _, h1, Fl.share_zero before hb b1 h2, ?_, ?_⟩ <;> split <;> omega
  · obtain ⟨nd, h1, ⟨N⟩⟩ := Fl.need_nz t m (lm l) ht hT.1 hT.2 hm hM.1 hM.2 (lm_ge l) (lm_le l hL.2)
    obtain ⟨k, h2, h3, h4, -⟩ := Fl.share_nz before t m (lm l) hb b1 N
    exact ⟨nd, k, h1, h2, h3, h4⟩

theorem sat_hi (D u : Int) : satSub D u ≤ 9223372036854775807 := by unfold satSub; split; omega; split <;> omega

/-- THE CONTRACT OF (*pace).share. -/
theorem share_meth (w : World) (b : Nat) (D l m t u : Int) (hD : I64 D) (hu : I64 u) (hl : I64 l) (hm : I64 m) (ht : I64 t) (hp : PaceAt w b D l m t) :
    Calls Trym.prog 55 #[.pointer (some ⟨b, 0, none⟩), .agg #[.int .u64 (u % 1000000000), .int .i64 (u / 1000000000), .pointer none]] w fun e w' => e = .returned (.int .i64 (shareVal (satSub D u) l m t)) ∧ Below w.heap.size w w' := by
  unfold shareVal
  by_cases hb : satSub D u ≤ 0
  · rw [if_pos hb]
    exact share_late w b D l m t u hD.1 hD.2 hu.1 hu.2 hp hb
  rw [if_neg hb]
  by_cases h0 : m = 0
  · rw [if_pos h0]
    exact share_unmade w b D l m t u hD.1 hD.2 hu.1 hu.2 hp (by omega) (by simp [h0])
  rw [if_neg h0]
  obtain ⟨nd, k, h1, h2, h3, h4⟩ := share_steps (satSub D u) l m t (by omega) (sat_hi D u) h0 hm ht hl
  rw [h1, Option.bind_some, h2, Option.getD_some]
  have hmb : (m == 0) = false := by simp [h0]
  unfold Fl.needB at h1
  obtain ⟨r1, d1, d2⟩ := Option.bind_eq_some_iff.1 h1
  unfold Fl.shareB at h2
  obtain ⟨r3, d3, h2⟩ := Option.bind_eq_some_iff.1 h2
  obtain ⟨mx, d4, h2⟩ := Option.bind_eq_some_iff.1 h2
  obtain ⟨mn, d5, d6⟩ := Option.bind_eq_some_iff.1 h2
  have d7 : floatToIntVal .f64 mn .i64 = some k := by
    have e : (FloatKind.f64.decode mn).toInt .zero = some k := d6
    unfold floatToIntVal
    rw [e]
    have e1 : IntKind.i64.min = -9223372036854775808 := by decide
    have e2 : IntKind.i64.max = 9223372036854775807 := by decide
    simp only [e1, e2]
    rw [if_pos (by omega)]
  by_cases hl1 : l < 1
  · have e : lm l = 1 := by unfold lm; rw [if_pos hl1]
    rw [e] at d2
    exact share_made1 w b D l m t u hD.1 hD.2 hu.1 hu.2 hp (by omega) hmb hl1 r1 nd r3 mx mn k d1 d2 d3 d4 d5 d7
  · have e : lm l = l := by unfold lm; rw [if_neg hl1]
    rw [e] at d2
    exact share_made w b D l m t u hD.1 hD.2 hu.1 hu.2 hp (by omega) hmb (by omega) r1 nd r3 mx mn k d1 d2 d3 d4 d5 d7

set_option maxHeartbeats 1000000 in
/-- THE CONTRACT OF ZZshare. -/
theorem share_any (w : World) (b : Nat) (D l m t u : Int) (hD : I64 D) (hu : I64 u) (hl : I64 l) (hm : I64 m) (ht : I64 t) (hp : PaceAt w b D l m t) :
    Calls Trym.prog 39 #[.pointer (some ⟨b, 0, none⟩), .int .i64 u] w fun e w' => e = .returned (.int .i64 (shareVal (satSub D u) l m t)) ∧ Below w.heap.size w w' := by
  go_enter Trym.func39, Trym.ntmps39
  go_wp2_with fail
  refine (add_any 0 0 u (by omega) (by omega) (by omega) (by omega) hu.1 hu.2 _).mono ?_
  rintro e w1 ⟨rfl, hb1⟩
  rw [tv_eq, Int.zero_add, Int.zero_add]
  go_wp2_with fail
  refine (share_meth w1 b D l m t u hD hu hl hm ht (hp.below hb1 hp.lt)).mono ?_
  rintro e w2 ⟨rfl, hb2⟩
  go_wp2_with fail
  go_ret
  exact ⟨rfl, hb1.trans (hb2.mono hb1.size)⟩

/-! ### THE PLAIN LAW OF share -/
theorem share_range (before l m t : Int) (b1 : before ≤ 9223372036854775807) (hM : I64 m) (hT : I64 t) (hL : I64 l) : 1 ≤ shareVal before l m t ∧ shareVal before l m t ≤ 200 := by
  unfold shareVal
  by_cases hb : before ≤ 0
  · rw [if_pos hb]; omega
  rw [if_neg hb]
  by_cases h0 : m = 0
  · rw [if_pos h0]; omega
  rw [if_neg h0]
  obtain ⟨nd, k, h1, h2, h3, h4⟩ := share_steps before l m t (by omega) b1 h0 hM hT hL
  rw [h1, Option.bind_some, h2, Option.getD_some]
  exact ⟨h3, h4⟩

theorem share_falls (b c l m t : Int) (hbc : b ≤ c) (c1 : c ≤ 9223372036854775807) (hM : I64 m) (hT : I64 t) (hL : I64 l) : shareVal b l m t ≤ shareVal c l m t := by
  by_cases hb : b ≤ 0
  · have e : shareVal b l m t = 1 := by unfold shareVal; rw [if_pos hb]
    rw [e]; exact (share_range c l m t c1 hM hT hL).1
  by_cases h0 : m = 0
  · unfold shareVal
    have hc : ¬ c ≤ 0 := by omega
    rw [if_neg hb, if_neg hc, if_pos h0, if_pos h0]
    omega
  obtain ⟨nd, k, h1, h2, h3, h4⟩ := share_steps b l m t (by omega) (by omega) h0 hM hT hL
  obtain ⟨nd', k', h1', h2', h3', h4'⟩ := share_steps c l m t (by omega) c1 h0 hM hT hL
  rw [h1] at h1'
  cases h1'
  unfold shareVal
  have hc : ¬ c ≤ 0 := by omega
  rw [if_neg hb, if_neg hc, if_neg h0, if_neg h0, h1, Option.bind_some, Option.bind_some, h2, h2', Option.getD_some, Option.getD_some]
  by_cases ht : t = 0
  · subst ht
    obtain ⟨nd2, g1, g2⟩ := Fl.need_zero m (lm l) h0 hM.1 hM.2 (lm_ge l) (lm_le l hL.2)
    rw [h1] at g1; cases g1
    have e1 := Fl.share_zero b (by omega) (by omega) g2
    have e2 := Fl.share_zero c (by omega) c1 g2
    rw [h2] at e1; rw [h2'] at e2
    cases e1; cases e2; omega
  · obtain ⟨nd2, g1, ⟨N⟩⟩ := Fl.need_nz t m (lm l) ht hT.1 hT.2 h0 hM.1 hM.2 (lm_ge l) (lm_le l hL.2)
    rw [h1] at g1; cases g1
    exact Fl.share_mono b c t m (lm l) (by omega) hbc c1 N h2 h2'

end Go.Proofs.Qxb6603509aMods
