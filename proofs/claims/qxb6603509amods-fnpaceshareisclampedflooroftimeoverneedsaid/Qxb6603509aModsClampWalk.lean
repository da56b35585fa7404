/-
  THE WALK of 'FnPaceShareIsClampedFloorOfTimeOverNeed'.
-/
import Derived.Test.Qxb6603509aModsWide
import Derived.Test.Qxb6603509aModsBound
namespace Go.Proofs.Qxb6603509aMods.fnPaceShareIsClampedFloorOfTimeOverNeed
open Go.RowKit Go.Proofs.Qxb6603509aMods
set_option linter.unusedVariables false

theorem bounds (a : Int) (h : (Lit.int .i64 a).wf = true) : I64 a := by
  simpa [Lit.wf, I64, IntKind.min, IntKind.max, IntKind.bits, IntKind.signed] using h

theorem share_to (k : Int) (w : World) (b : Nat) (D l m t u : Int) (hk : shareVal (satSub D u) l m t = k) (hD : I64 D) (hu : I64 u) (hl : I64 l) (hm : I64 m) (ht : I64 t) (hp : PaceAt w b D l m t) :
    Calls Trym.prog 39 #[.pointer (some ⟨b, 0, none⟩), .int .i64 u] w fun e w' => e = .returned (.int .i64 k) ∧ Below w.heap.size w w' := by
  subst hk; exact share_any w b D l m t u hD hu hl hm ht hp
theorem subSat_to (k a b : Int) (hk : satSub a b = k) (ha : I64 a) (hb : I64 b) (w : World) :
    Calls Trym.prog 40 #[.int .i64 a, .int .i64 b] w fun e w' => e = .returned (.int .i64 k) ∧ w = w' := by
  subst hk; exact subSat_any a b ha hb w
theorem mul_to (x y N : Int) (hN : x * y = N) (x0 : 0 ≤ x) (x1 : x < 18446744073709551616) (y0 : 0 ≤ y) (y1 : y < 18446744073709551616) (w : World) :
    Calls Trym.prog 41 #[.int .u64 x, .int .u64 y] w fun e w' => Two e N ∧ w = w' := by
  subst hN
  obtain ⟨a, rfl⟩ := Int.eq_ofNat_of_zero_le x0
  obtain ⟨b, rfl⟩ := Int.eq_ofNat_of_zero_le y0
  have := mul_any a b (by omega) (by omega) w
  rwa [Int.natCast_mul] at this

/-! ### THE LAST STEP, without Go -/
theorem hi_law {N P X g hi : Int} (hX : X = N + N / 1125899906842624) (g1 : g ≤ 200) (K : ∀ c : Int, 2 ≤ c → c ≤ 200 → (c ≤ g → c * P * 1125899906842624 ≤ N * 1125899906842625)) (C : Clamp P X hi) : g ≤ hi := by
  apply Decidable.byContradiction
  intro h
  have a := C.hi (by omega)
  have b := K (hi + 1) (by have := C.r0; omega) (by omega) (by omega)
  generalize (hi + 1) * P = q at *
  omega
theorem lo_law {N P Y c g lo : Int} (hY : Y = N - c) (hc : N ≤ c * 1125899906842624) (g0 : 1 ≤ g) (K : ∀ c : Int, 2 ≤ c → c ≤ 200 → (c * P * 1125899906842624 ≤ N * 1125899906842623 → c ≤ g)) (C : Clamp P Y lo) : lo ≤ g := by
  by_cases h : 2 ≤ lo
  · have a := C.lo h
    apply K lo h C.r1
    generalize lo * P = q at *
    omega
  · omega

set_option maxHeartbeats 2000000 in
theorem late (D u l m t B g : Int) (hD : I64 D) (hU : I64 u) (hL : I64 l) (hM : I64 m) (hT : I64 t) (hB : Hid (satSub D u = B)) (hg : Hid (shareVal B l m t = g)) (h1 : B ≤ 0) (h2 : (g == 1) = true) (w : World) :
    Calls Trym.prog 7 #[.int .i64 D, .int .i64 u, .int .i64 l, .int .i64 m, .int .i64 t] w fun e w' => e = .returned (.bool true) ∧ Below w.heap.size w w' := by
  go_enter Trym.func7, Trym.ntmps7
  go_wp2_with fail
  refine (newPace_any D l m t hD.1 hD.2 _).mono ?_
  rintro e w1 ⟨p, rfl, hp0, hp, hb1⟩
  go_wp2_with fail
  refine (share_to g _ p D l m t u (by rw [hB.out]; exact hg.out) hD hU hL hM hT hp).mono ?_
  rintro e w2 ⟨rfl, hb2⟩
  have hp2 := hp.below hb2 hp.lt
  go_wp2_with fail
  refine (paceDeadline_any _ p D l m t hD.1 hD.2 hp2).mono ?_
  rintro e w3 ⟨rfl, hb3⟩
  have hp3 := hp2.below hb3 hp2.lt
  have z1 := hb1.size
  have z2 := hb2.size
  have HBel : Hid (Below w.heap.size w w3) := hb1.trans ((hb2.mono (by omega)).trans (hb3.mono (by omega)))
  go_wp2_with fail
  refine (paceLeft_any _ p D l m t hp3).mono ?_
  rintro e _ ⟨rfl, rfl⟩
  go_wp2_with fail
  refine (paceMade_any _ p D l m t hp3).mono ?_
  rintro e _ ⟨rfl, rfl⟩
  go_wp2_with fail
  refine (paceTook_any _ p D l m t hp3).mono ?_
  rintro e _ ⟨rfl, rfl⟩
  go_wp2_with fail
  refine (subSat_to B D u hB.out hD hU _).mono ?_
  rintro e _ ⟨rfl, rfl⟩
  clear hb1 hb2 hb3 hp hp2 hp3 z1 z2 hp0
  go_wp2_with fail
  go_ret
  exact ⟨rfl, HBel.out⟩

set_option maxHeartbeats 2000000 in
theorem unmade (D u l m t B g : Int) (hD : I64 D) (hU : I64 u) (hL : I64 l) (hM : I64 m) (hT : I64 t) (hB : Hid (satSub D u = B)) (hg : Hid (shareVal B l m t = g)) (h1 : 0 < B) (h0 : (m == 0) = true) (h2 : (g == 200) = true) (w : World) :
    Calls Trym.prog 7 #[.int .i64 D, .int .i64 u, .int .i64 l, .int .i64 m, .int .i64 t] w fun e w' => e = .returned (.bool true) ∧ Below w.heap.size w w' := by
  go_enter Trym.func7, Trym.ntmps7
  go_wp2_with fail
  refine (newPace_any D l m t hD.1 hD.2 _).mono ?_
  rintro e w1 ⟨p, rfl, hp0, hp, hb1⟩
  go_wp2_with fail
  refine (share_to g _ p D l m t u (by rw [hB.out]; exact hg.out) hD hU hL hM hT hp).mono ?_
  rintro e w2 ⟨rfl, hb2⟩
  have hp2 := hp.below hb2 hp.lt
  go_wp2_with fail
  refine (paceDeadline_any _ p D l m t hD.1 hD.2 hp2).mono ?_
  rintro e w3 ⟨rfl, hb3⟩
  have hp3 := hp2.below hb3 hp2.lt
  have z1 := hb1.size
  have z2 := hb2.size
  have HBel : Hid (Below w.heap.size w w3) := hb1.trans ((hb2.mono (by omega)).trans (hb3.mono (by omega)))
  go_wp2_with fail
  refine (paceLeft_any _ p D l m t hp3).mono ?_
  rintro e _ ⟨rfl, rfl⟩
  go_wp2_with fail
  refine (paceMade_any _ p D l m t hp3).mono ?_
  rintro e _ ⟨rfl, rfl⟩
  go_wp2_with fail
  refine (paceTook_any _ p D l m t hp3).mono ?_
  rintro e _ ⟨rfl, rfl⟩
  go_wp2_with fail
  refine (subSat_to B D u hB.out hD hU _).mono ?_
  rintro e _ ⟨rfl, rfl⟩
  clear hb1 hb2 hb3 hp hp2 hp3 z1 z2 hp0
  go_wp2_with fail
  go_ret
  exact ⟨rfl, HBel.out⟩

set_option maxHeartbeats 2000000 in
theorem took0a (D u l m t B g : Int) (hD : I64 D) (hU : I64 u) (hL : I64 l) (hM : I64 m) (hT : I64 t) (hB : Hid (satSub D u = B)) (hg : Hid (shareVal B l m t = g)) (h1 : 0 < B) (h0 : (m == 0) = false) (h3 : (t == 0) = true) (h4 : 0 < m) (h2 : (g == 200) = true) (w : World) :
    Calls Trym.prog 7 #[.int .i64 D, .int .i64 u, .int .i64 l, .int .i64 m, .int .i64 t] w fun e w' => e = .returned (.bool true) ∧ Below w.heap.size w w' := by
  go_enter Trym.func7, Trym.ntmps7
  go_wp2_with fail
  refine (newPace_any D l m t hD.1 hD.2 _).mono ?_
  rintro e w1 ⟨p, rfl, hp0, hp, hb1⟩
  go_wp2_with fail
  refine (share_to g _ p D l m t u (by rw [hB.out]; exact hg.out) hD hU hL hM hT hp).mono ?_
  rintro e w2 ⟨rfl, hb2⟩
  have hp2 := hp.below hb2 hp.lt
  go_wp2_with fail
  refine (paceDeadline_any _ p D l m t hD.1 hD.2 hp2).mono ?_
  rintro e w3 ⟨rfl, hb3⟩
  have hp3 := hp2.below hb3 hp2.lt
  have z1 := hb1.size
  have z2 := hb2.size
  have HBel : Hid (Below w.heap.size w w3) := hb1.trans ((hb2.mono (by omega)).trans (hb3.mono (by omega)))
  go_wp2_with fail
  refine (paceLeft_any _ p D l m t hp3).mono ?_
  rintro e _ ⟨rfl, rfl⟩
  go_wp2_with fail
  refine (paceMade_any _ p D l m t hp3).mono ?_
  rintro e _ ⟨rfl, rfl⟩
  go_wp2_with fail
  refine (paceTook_any _ p D l m t hp3).mono ?_
  rintro e _ ⟨rfl, rfl⟩
  go_wp2_with fail
  refine (subSat_to B D u hB.out hD hU _).mono ?_
  rintro e _ ⟨rfl, rfl⟩
  clear hb1 hb2 hb3 hp hp2 hp3 z1 z2 hp0
  go_wp2_with fail
  go_ret
  exact ⟨rfl, HBel.out⟩

set_option maxHeartbeats 2000000 in
theorem took0b (D u l m t B g : Int) (hD : I64 D) (hU : I64 u) (hL : I64 l) (hM : I64 m) (hT : I64 t) (hB : Hid (satSub D u = B)) (hg : Hid (shareVal B l m t = g)) (h1 : 0 < B) (h0 : (m == 0) = false) (h3 : (t == 0) = true) (h4 : m < 0) (h2 : (g == 1) = true) (w : World) :
    Calls Trym.prog 7 #[.int .i64 D, .int .i64 u, .int .i64 l, .int .i64 m, .int .i64 t] w fun e w' => e = .returned (.bool true) ∧ Below w.heap.size w w' := by
  go_enter Trym.func7, Trym.ntmps7
  go_wp2_with fail
  refine (newPace_any D l m t hD.1 hD.2 _).mono ?_
  rintro e w1 ⟨p, rfl, hp0, hp, hb1⟩
  go_wp2_with fail
  refine (share_to g _ p D l m t u (by rw [hB.out]; exact hg.out) hD hU hL hM hT hp).mono ?_
  rintro e w2 ⟨rfl, hb2⟩
  have hp2 := hp.below hb2 hp.lt
  go_wp2_with fail
  refine (paceDeadline_any _ p D l m t hD.1 hD.2 hp2).mono ?_
  rintro e w3 ⟨rfl, hb3⟩
  have hp3 := hp2.below hb3 hp2.lt
  have z1 := hb1.size
  have z2 := hb2.size
  have HBel : Hid (Below w.heap.size w w3) := hb1.trans ((hb2.mono (by omega)).trans (hb3.mono (by omega)))
  go_wp2_with fail
  refine (paceLeft_any _ p D l m t hp3).mono ?_
  rintro e _ ⟨rfl, rfl⟩
  go_wp2_with fail
  refine (paceMade_any _ p D l m t hp3).mono ?_
  rintro e _ ⟨rfl, rfl⟩
  go_wp2_with fail
  refine (paceTook_any _ p D l m t hp3).mono ?_
  rintro e _ ⟨rfl, rfl⟩
  go_wp2_with fail
  refine (subSat_to B D u hB.out hD hU _).mono ?_
  rintro e _ ⟨rfl, rfl⟩
  clear hb1 hb2 hb3 hp hp2 hp3 z1 z2 hp0
  go_wp2_with fail
  go_ret
  exact ⟨rfl, HBel.out⟩

set_option maxHeartbeats 2000000 in
theorem signsa (D u l m t B g : Int) (hD : I64 D) (hU : I64 u) (hL : I64 l) (hM : I64 m) (hT : I64 t) (hB : Hid (satSub D u = B)) (hg : Hid (shareVal B l m t = g)) (h1 : 0 < B) (h0 : (m == 0) = false) (h3 : (t == 0) = false) (h4 : 0 < m) (h5 : t < 0) (h6 : decide (m < 0) = false) (h7 : decide (t < 0) = true) (h2 : (g == 1) = true) (w : World) :
    Calls Trym.prog 7 #[.int .i64 D, .int .i64 u, .int .i64 l, .int .i64 m, .int .i64 t] w fun e w' => e = .returned (.bool true) ∧ Below w.heap.size w w' := by
  go_enter Trym.func7, Trym.ntmps7
  go_wp2_with fail
  refine (newPace_any D l m t hD.1 hD.2 _).mono ?_
  rintro e w1 ⟨p, rfl, hp0, hp, hb1⟩
  go_wp2_with fail
  refine (share_to g _ p D l m t u (by rw [hB.out]; exact hg.out) hD hU hL hM hT hp).mono ?_
  rintro e w2 ⟨rfl, hb2⟩
  have hp2 := hp.below hb2 hp.lt
  go_wp2_with fail
  refine (paceDeadline_any _ p D l m t hD.1 hD.2 hp2).mono ?_
  rintro e w3 ⟨rfl, hb3⟩
  have hp3 := hp2.below hb3 hp2.lt
  have z1 := hb1.size
  have z2 := hb2.size
  have HBel : Hid (Below w.heap.size w w3) := hb1.trans ((hb2.mono (by omega)).trans (hb3.mono (by omega)))
  go_wp2_with fail
  refine (paceLeft_any _ p D l m t hp3).mono ?_
  rintro e _ ⟨rfl, rfl⟩
  go_wp2_with fail
  refine (paceMade_any _ p D l m t hp3).mono ?_
  rintro e _ ⟨rfl, rfl⟩
  go_wp2_with fail
  refine (paceTook_any _ p D l m t hp3).mono ?_
  rintro e _ ⟨rfl, rfl⟩
  go_wp2_with fail
  refine (subSat_to B D u hB.out hD hU _).mono ?_
  rintro e _ ⟨rfl, rfl⟩
  clear hb1 hb2 hb3 hp hp2 hp3 z1 z2 hp0
  go_wp2_with fail
  go_ret
  exact ⟨rfl, HBel.out⟩

set_option maxHeartbeats 2000000 in
theorem signsb (D u l m t B g : Int) (hD : I64 D) (hU : I64 u) (hL : I64 l) (hM : I64 m) (hT : I64 t) (hB : Hid (satSub D u = B)) (hg : Hid (shareVal B l m t = g)) (h1 : 0 < B) (h0 : (m == 0) = false) (h3 : (t == 0) = false) (h4 : m < 0) (h5 : 0 < t) (h6 : decide (m < 0) = true) (h7 : decide (t < 0) = false) (h2 : (g == 1) = true) (w : World) :
    Calls Trym.prog 7 #[.int .i64 D, .int .i64 u, .int .i64 l, .int .i64 m, .int .i64 t] w fun e w' => e = .returned (.bool true) ∧ Below w.heap.size w w' := by
  go_enter Trym.func7, Trym.ntmps7
  go_wp2_with fail
  refine (newPace_any D l m t hD.1 hD.2 _).mono ?_
  rintro e w1 ⟨p, rfl, hp0, hp, hb1⟩
  go_wp2_with fail
  refine (share_to g _ p D l m t u (by rw [hB.out]; exact hg.out) hD hU hL hM hT hp).mono ?_
  rintro e w2 ⟨rfl, hb2⟩
  have hp2 := hp.below hb2 hp.lt
  go_wp2_with fail
  refine (paceDeadline_any _ p D l m t hD.1 hD.2 hp2).mono ?_
  rintro e w3 ⟨rfl, hb3⟩
  have hp3 := hp2.below hb3 hp2.lt
  have z1 := hb1.size
  have z2 := hb2.size
  have HBel : Hid (Below w.heap.size w w3) := hb1.trans ((hb2.mono (by omega)).trans (hb3.mono (by omega)))
  go_wp2_with fail
  refine (paceLeft_any _ p D l m t hp3).mono ?_
  rintro e _ ⟨rfl, rfl⟩
  go_wp2_with fail
  refine (paceMade_any _ p D l m t hp3).mono ?_
  rintro e _ ⟨rfl, rfl⟩
  go_wp2_with fail
  refine (paceTook_any _ p D l m t hp3).mono ?_
  rintro e _ ⟨rfl, rfl⟩
  go_wp2_with fail
  refine (subSat_to B D u hB.out hD hU _).mono ?_
  rintro e _ ⟨rfl, rfl⟩
  clear hb1 hb2 hb3 hp hp2 hp3 z1 z2 hp0
  go_wp2_with fail
  go_ret
  exact ⟨rfl, HBel.out⟩

set_option maxHeartbeats 4000000 in
theorem mid_a (D u l m t B g : Int) (hD : I64 D) (hU : I64 u) (hL : I64 l) (hM : I64 m) (hT : I64 t) (hB : Hid (satSub D u = B)) (hg : Hid (shareVal B l m t = g)) (N P : Int) (n0 : 0 ≤ N) (n1 : N < 170141183460469231731687303715884105728) (h1 : 0 < B) (b1 : B ≤ 9223372036854775807) (h0 : (m == 0) = false) (h3 : (t == 0) = false) (h4 : 0 < m) (h5 : 0 < t) (hm2 : decide (m < 0) = false) (ht2 : decide (t < 0) = false) (h6 : l < 1) (hN : Hid (B * (m.natAbs : Int) = N)) (hP : Hid ((t.natAbs : Int) * 1 = P)) (g0 : 1 ≤ g) (g1 : g ≤ 200)
    (K : Hid (∀ c : Int, 2 ≤ c → c ≤ 200 → (c ≤ g → c * P * 1125899906842624 ≤ N * 1125899906842625) ∧ (c * P * 1125899906842624 ≤ N * 1125899906842623 → c ≤ g))) (w : World) :
    Calls Trym.prog 7 #[.int .i64 D, .int .i64 u, .int .i64 l, .int .i64 m, .int .i64 t] w fun e w' => e = .returned (.bool true) ∧ Below w.heap.size w w' := by
  have hM0 := hM.1
  have hM1 := hM.2
  have hT0 := hT.1
  have hT1 := hT.2
  have hL1 := hL.2
  go_enter Trym.func7, Trym.ntmps7
  go_wp2_with fail
  refine (newPace_any D l m t hD.1 hD.2 _).mono ?_
  rintro e w1 ⟨p, rfl, hp0, hp, hb1⟩
  go_wp2_with fail
  refine (share_to g _ p D l m t u (by rw [hB.out]; exact hg.out) hD hU hL hM hT hp).mono ?_
  rintro e w2 ⟨rfl, hb2⟩
  have hp2 := hp.below hb2 hp.lt
  go_wp2_with fail
  refine (paceDeadline_any _ p D l m t hD.1 hD.2 hp2).mono ?_
  rintro e w3 ⟨rfl, hb3⟩
  have hp3 := hp2.below hb3 hp2.lt
  have z1 := hb1.size
  have z2 := hb2.size
  have HBel : Hid (Below w.heap.size w w3) := hb1.trans ((hb2.mono (by omega)).trans (hb3.mono (by omega)))
  go_wp2_with fail
  refine (paceLeft_any _ p D l m t hp3).mono ?_
  rintro e _ ⟨rfl, rfl⟩
  go_wp2_with fail
  refine (paceMade_any _ p D l m t hp3).mono ?_
  rintro e _ ⟨rfl, rfl⟩
  go_wp2_with fail
  refine (paceTook_any _ p D l m t hp3).mono ?_
  rintro e _ ⟨rfl, rfl⟩
  go_wp2_with fail
  refine (subSat_to B D u hB.out hD hU _).mono ?_
  rintro e _ ⟨rfl, rfl⟩
  clear hb1 hb2 hb3 hp hp2 hp3 z1 z2 hp0
  go_wp2_with fail
  refine (magInt_any m hM.1 hM.2 _).mono ?_
  rintro e _ ⟨rfl, rfl⟩
  go_wp2_with fail
  refine (mul_to B (m.natAbs : Int) N hN.out (by omega) (by omega) (by omega) (by omega) _).mono ?_
  rintro e _ ⟨⟨nh, nl, rfl, hn⟩, rfl⟩
  have HN : Hid (Is128 nh nl N) := hn
  have nl0 := hn.l0
  have nl1 := hn.l1
  have neq := hn.eq
  have hand := W.low50 nl nl0 nl1
  have HMod : Hid (N % 1125899906842624 = nl % 1125899906842624) := (by rw [neq]; omega : N % 1125899906842624 = nl % 1125899906842624)
  clear hn neq
  go_wp2_with fail
  refine (magInt64_any t hT.1 hT.2 _).mono ?_
  rintro e _ ⟨rfl, rfl⟩
  go_wp2_with fail
  refine (mul_to (t.natAbs : Int) 1 P hP.out (by omega) (by omega) (by omega) (by omega) _).mono ?_
  rintro e _ ⟨⟨dh, dl, rfl, hd⟩, rfl⟩
  have HP : Hid (Is128 dh dl P) := hd
  clear hd
  go_wp2_with fail
  refine (shr_any nh nl N HN.out _).mono ?_
  rintro e _ ⟨⟨fh, fl, rfl, hf⟩, rfl⟩
  have HF : Hid (Is128 fh fl (N / 1125899906842624)) := hf
  clear hf
  go_wp2_with fail
  refine (add_any128 nh nl N fh fl _ HN.out HF.out _).mono ?_
  rintro e _ ⟨⟨xh, xl, ⟨rfl, hx⟩ | ⟨rfl, hx⟩⟩, rfl⟩
  · exfalso; omega
  have HX : Hid (Is128 xh xl (N + N / 1125899906842624)) := hx
  clear hx
  go_wp2_with fail
  refine (clamp_any dh dl P xh xl _ HP.out HX.out _).mono ?_
  rintro e _ ⟨⟨hi, rfl, hc⟩, rfl⟩
  have hhi : g ≤ hi := hi_law rfl g1 (fun c c0 c1 => (K.out c c0 c1).1) hc
  clear hc
  by_cases hz : (nl % 1125899906842624 != 0) = true
  · have hz' : N % 1125899906842624 ≠ 0 := by rw [HMod.out]; simpa using hz
    have HZ : Hid (N % 1125899906842624 ≠ 0) := hz'
    clear hz'
    go_wp2_with fail
    refine (add_any128 fh fl _ 0 1 1 HF.out ⟨by omega, by omega, by omega, by omega, by omega⟩ _).mono ?_
    rintro e _ ⟨⟨ch, cl, ⟨rfl, hx⟩ | ⟨rfl, hx⟩⟩, rfl⟩
    · exfalso; omega
    have HC : Hid (Is128 ch cl (N / 1125899906842624 + 1)) := hx
    clear hx
    have hle : decide (N / 1125899906842624 + 1 ≤ N) = true := by have := HZ.out; simp; omega
    go_wp2_with fail
    refine (le_any ch cl _ nh nl _ HC.out HN.out _).mono ?_
    rintro e _ ⟨rfl, rfl⟩
    rw [hle]
    go_wp2_with fail
    refine (sub_any128 nh nl _ ch cl _ HN.out HC.out (of_decide_eq_true hle) _).mono ?_
    rintro e _ ⟨⟨yh, yl, rfl, hy⟩, rfl⟩
    have HY : Hid (Is128 yh yl (N - (N / 1125899906842624 + 1))) := hy
    clear hy
    go_wp2_with fail
    refine (clamp_any dh dl P yh yl _ HP.out HY.out _).mono ?_
    rintro e _ ⟨⟨lo, rfl, hc⟩, rfl⟩
    have hlo : lo ≤ g := lo_law rfl (by omega) g0 (fun c c0 c1 => (K.out c c0 c1).2) hc
    clear hc
    go_wp2_with fail
    go_ret
    exact ⟨rfl, HBel.out⟩
  · have hz' : N % 1125899906842624 = 0 := by rw [HMod.out]; simpa using hz
    have HZ : Hid (N % 1125899906842624 = 0) := hz'
    clear hz'
    have hz2 : (nl % 1125899906842624 != 0) = false := by simpa using hz
    clear hz
    have hle : decide (N / 1125899906842624 ≤ N) = true := by simp; omega
    go_wp2_with fail
    refine (le_any fh fl _ nh nl _ HF.out HN.out _).mono ?_
    rintro e _ ⟨rfl, rfl⟩
    rw [hle]
    go_wp2_with fail
    refine (sub_any128 nh nl _ fh fl _ HN.out HF.out (of_decide_eq_true hle) _).mono ?_
    rintro e _ ⟨⟨yh, yl, rfl, hy⟩, rfl⟩
    have HY : Hid (Is128 yh yl (N - N / 1125899906842624)) := hy
    clear hy
    go_wp2_with fail
    refine (clamp_any dh dl P yh yl _ HP.out HY.out _).mono ?_
    rintro e _ ⟨⟨lo, rfl, hc⟩, rfl⟩
    have hlo : lo ≤ g := lo_law rfl (by have := HZ.out; omega) g0 (fun c c0 c1 => (K.out c c0 c1).2) hc
    clear hc
    go_wp2_with fail
    go_ret
    exact ⟨rfl, HBel.out⟩

set_option maxHeartbeats 4000000 in
theorem mid_b (D u l m t B g : Int) (hD : I64 D) (hU : I64 u) (hL : I64 l) (hM : I64 m) (hT : I64 t) (hB : Hid (satSub D u = B)) (hg : Hid (shareVal B l m t = g)) (N P : Int) (n0 : 0 ≤ N) (n1 : N < 170141183460469231731687303715884105728) (h1 : 0 < B) (b1 : B ≤ 9223372036854775807) (h0 : (m == 0) = false) (h3 : (t == 0) = false) (h4 : 0 < m) (h5 : 0 < t) (hm2 : decide (m < 0) = false) (ht2 : decide (t < 0) = false) (h6 : 1 ≤ l) (hN : Hid (B * (m.natAbs : Int) = N)) (hP : Hid ((t.natAbs : Int) * l = P)) (g0 : 1 ≤ g) (g1 : g ≤ 200)
    (K : Hid (∀ c : Int, 2 ≤ c → c ≤ 200 → (c ≤ g → c * P * 1125899906842624 ≤ N * 1125899906842625) ∧ (c * P * 1125899906842624 ≤ N * 1125899906842623 → c ≤ g))) (w : World) :
    Calls Trym.prog 7 #[.int .i64 D, .int .i64 u, .int .i64 l, .int .i64 m, .int .i64 t] w fun e w' => e = .returned (.bool true) ∧ Below w.heap.size w w' := by
  have hM0 := hM.1
  have hM1 := hM.2
  have hT0 := hT.1
  have hT1 := hT.2
  have hL1 := hL.2
  go_enter Trym.func7, Trym.ntmps7
  go_wp2_with fail
  refine (newPace_any D l m t hD.1 hD.2 _).mono ?_
  rintro e w1 ⟨p, rfl, hp0, hp, hb1⟩
  go_wp2_with fail
  refine (share_to g _ p D l m t u (by rw [hB.out]; exact hg.out) hD hU hL hM hT hp).mono ?_
  rintro e w2 ⟨rfl, hb2⟩
  have hp2 := hp.below hb2 hp.lt
  go_wp2_with fail
  refine (paceDeadline_any _ p D l m t hD.1 hD.2 hp2).mono ?_
  rintro e w3 ⟨rfl, hb3⟩
  have hp3 := hp2.below hb3 hp2.lt
  have z1 := hb1.size
  have z2 := hb2.size
  have HBel : Hid (Below w.heap.size w w3) := hb1.trans ((hb2.mono (by omega)).trans (hb3.mono (by omega)))
  go_wp2_with fail
  refine (paceLeft_any _ p D l m t hp3).mono ?_
  rintro e _ ⟨rfl, rfl⟩
  go_wp2_with fail
  refine (paceMade_any _ p D l m t hp3).mono ?_
  rintro e _ ⟨rfl, rfl⟩
  go_wp2_with fail
  refine (paceTook_any _ p D l m t hp3).mono ?_
  rintro e _ ⟨rfl, rfl⟩
  go_wp2_with fail
  refine (subSat_to B D u hB.out hD hU _).mono ?_
  rintro e _ ⟨rfl, rfl⟩
  clear hb1 hb2 hb3 hp hp2 hp3 z1 z2 hp0
  go_wp2_with fail
  refine (magInt_any m hM.1 hM.2 _).mono ?_
  rintro e _ ⟨rfl, rfl⟩
  go_wp2_with fail
  refine (mul_to B (m.natAbs : Int) N hN.out (by omega) (by omega) (by omega) (by omega) _).mono ?_
  rintro e _ ⟨⟨nh, nl, rfl, hn⟩, rfl⟩
  have HN : Hid (Is128 nh nl N) := hn
  have nl0 := hn.l0
  have nl1 := hn.l1
  have neq := hn.eq
  have hand := W.low50 nl nl0 nl1
  have HMod : Hid (N % 1125899906842624 = nl % 1125899906842624) := (by rw [neq]; omega : N % 1125899906842624 = nl % 1125899906842624)
  clear hn neq
  go_wp2_with fail
  refine (magInt64_any t hT.1 hT.2 _).mono ?_
  rintro e _ ⟨rfl, rfl⟩
  go_wp2_with fail
  refine (mul_to (t.natAbs : Int) l P hP.out (by omega) (by omega) (by omega) (by omega) _).mono ?_
  rintro e _ ⟨⟨dh, dl, rfl, hd⟩, rfl⟩
  have HP : Hid (Is128 dh dl P) := hd
  clear hd
  go_wp2_with fail
  refine (shr_any nh nl N HN.out _).mono ?_
  rintro e _ ⟨⟨fh, fl, rfl, hf⟩, rfl⟩
  have HF : Hid (Is128 fh fl (N / 1125899906842624)) := hf
  clear hf
  go_wp2_with fail
  refine (add_any128 nh nl N fh fl _ HN.out HF.out _).mono ?_
  rintro e _ ⟨⟨xh, xl, ⟨rfl, hx⟩ | ⟨rfl, hx⟩⟩, rfl⟩
  · exfalso; omega
  have HX : Hid (Is128 xh xl (N + N / 1125899906842624)) := hx
  clear hx
  go_wp2_with fail
  refine (clamp_any dh dl P xh xl _ HP.out HX.out _).mono ?_
  rintro e _ ⟨⟨hi, rfl, hc⟩, rfl⟩
  have hhi : g ≤ hi := hi_law rfl g1 (fun c c0 c1 => (K.out c c0 c1).1) hc
  clear hc
  by_cases hz : (nl % 1125899906842624 != 0) = true
  · have hz' : N % 1125899906842624 ≠ 0 := by rw [HMod.out]; simpa using hz
    have HZ : Hid (N % 1125899906842624 ≠ 0) := hz'
    clear hz'
    go_wp2_with fail
    refine (add_any128 fh fl _ 0 1 1 HF.out ⟨by omega, by omega, by omega, by omega, by omega⟩ _).mono ?_
    rintro e _ ⟨⟨ch, cl, ⟨rfl, hx⟩ | ⟨rfl, hx⟩⟩, rfl⟩
    · exfalso; omega
    have HC : Hid (Is128 ch cl (N / 1125899906842624 + 1)) := hx
    clear hx
    have hle : decide (N / 1125899906842624 + 1 ≤ N) = true := by have := HZ.out; simp; omega
    go_wp2_with fail
    refine (le_any ch cl _ nh nl _ HC.out HN.out _).mono ?_
    rintro e _ ⟨rfl, rfl⟩
    rw [hle]
    go_wp2_with fail
    refine (sub_any128 nh nl _ ch cl _ HN.out HC.out (of_decide_eq_true hle) _).mono ?_
    rintro e _ ⟨⟨yh, yl, rfl, hy⟩, rfl⟩
    have HY : Hid (Is128 yh yl (N - (N / 1125899906842624 + 1))) := hy
    clear hy
    go_wp2_with fail
    refine (clamp_any dh dl P yh yl _ HP.out HY.out _).mono ?_
    rintro e _ ⟨⟨lo, rfl, hc⟩, rfl⟩
    have hlo : lo ≤ g := lo_law rfl (by omega) g0 (fun c c0 c1 => (K.out c c0 c1).2) hc
    clear hc
    go_wp2_with fail
    go_ret
    exact ⟨rfl, HBel.out⟩
  · have hz' : N % 1125899906842624 = 0 := by rw [HMod.out]; simpa using hz
    have HZ : Hid (N % 1125899906842624 = 0) := hz'
    clear hz'
    have hz2 : (nl % 1125899906842624 != 0) = false := by simpa using hz
    clear hz
    have hle : decide (N / 1125899906842624 ≤ N) = true := by simp; omega
    go_wp2_with fail
    refine (le_any fh fl _ nh nl _ HF.out HN.out _).mono ?_
    rintro e _ ⟨rfl, rfl⟩
    rw [hle]
    go_wp2_with fail
    refine (sub_any128 nh nl _ fh fl _ HN.out HF.out (of_decide_eq_true hle) _).mono ?_
    rintro e _ ⟨⟨yh, yl, rfl, hy⟩, rfl⟩
    have HY : Hid (Is128 yh yl (N - N / 1125899906842624)) := hy
    clear hy
    go_wp2_with fail
    refine (clamp_any dh dl P yh yl _ HP.out HY.out _).mono ?_
    rintro e _ ⟨⟨lo, rfl, hc⟩, rfl⟩
    have hlo : lo ≤ g := lo_law rfl (by have := HZ.out; omega) g0 (fun c c0 c1 => (K.out c c0 c1).2) hc
    clear hc
    go_wp2_with fail
    go_ret
    exact ⟨rfl, HBel.out⟩

set_option maxHeartbeats 4000000 in
theorem mid_c (D u l m t B g : Int) (hD : I64 D) (hU : I64 u) (hL : I64 l) (hM : I64 m) (hT : I64 t) (hB : Hid (satSub D u = B)) (hg : Hid (shareVal B l m t = g)) (N P : Int) (n0 : 0 ≤ N) (n1 : N < 170141183460469231731687303715884105728) (h1 : 0 < B) (b1 : B ≤ 9223372036854775807) (h0 : (m == 0) = false) (h3 : (t == 0) = false) (h4 : m < 0) (h5 : t < 0) (hm2 : decide (m < 0) = true) (ht2 : decide (t < 0) = true) (h6 : l < 1) (hN : Hid (B * (m.natAbs : Int) = N)) (hP : Hid ((t.natAbs : Int) * 1 = P)) (g0 : 1 ≤ g) (g1 : g ≤ 200)
    (K : Hid (∀ c : Int, 2 ≤ c → c ≤ 200 → (c ≤ g → c * P * 1125899906842624 ≤ N * 1125899906842625) ∧ (c * P * 1125899906842624 ≤ N * 1125899906842623 → c ≤ g))) (w : World) :
    Calls Trym.prog 7 #[.int .i64 D, .int .i64 u, .int .i64 l, .int .i64 m, .int .i64 t] w fun e w' => e = .returned (.bool true) ∧ Below w.heap.size w w' := by
  have hM0 := hM.1
  have hM1 := hM.2
  have hT0 := hT.1
  have hT1 := hT.2
  have hL1 := hL.2
  go_enter Trym.func7, Trym.ntmps7
  go_wp2_with fail
  refine (newPace_any D l m t hD.1 hD.2 _).mono ?_
  rintro e w1 ⟨p, rfl, hp0, hp, hb1⟩
  go_wp2_with fail
  refine (share_to g _ p D l m t u (by rw [hB.out]; exact hg.out) hD hU hL hM hT hp).mono ?_
  rintro e w2 ⟨rfl, hb2⟩
  have hp2 := hp.below hb2 hp.lt
  go_wp2_with fail
  refine (paceDeadline_any _ p D l m t hD.1 hD.2 hp2).mono ?_
  rintro e w3 ⟨rfl, hb3⟩
  have hp3 := hp2.below hb3 hp2.lt
  have z1 := hb1.size
  have z2 := hb2.size
  have HBel : Hid (Below w.heap.size w w3) := hb1.trans ((hb2.mono (by omega)).trans (hb3.mono (by omega)))
  go_wp2_with fail
  refine (paceLeft_any _ p D l m t hp3).mono ?_
  rintro e _ ⟨rfl, rfl⟩
  go_wp2_with fail
  refine (paceMade_any _ p D l m t hp3).mono ?_
  rintro e _ ⟨rfl, rfl⟩
  go_wp2_with fail
  refine (paceTook_any _ p D l m t hp3).mono ?_
  rintro e _ ⟨rfl, rfl⟩
  go_wp2_with fail
  refine (subSat_to B D u hB.out hD hU _).mono ?_
  rintro e _ ⟨rfl, rfl⟩
  clear hb1 hb2 hb3 hp hp2 hp3 z1 z2 hp0
  go_wp2_with fail
  refine (magInt_any m hM.1 hM.2 _).mono ?_
  rintro e _ ⟨rfl, rfl⟩
  go_wp2_with fail
  refine (mul_to B (m.natAbs : Int) N hN.out (by omega) (by omega) (by omega) (by omega) _).mono ?_
  rintro e _ ⟨⟨nh, nl, rfl, hn⟩, rfl⟩
  have HN : Hid (Is128 nh nl N) := hn
  have nl0 := hn.l0
  have nl1 := hn.l1
  have neq := hn.eq
  have hand := W.low50 nl nl0 nl1
  have HMod : Hid (N % 1125899906842624 = nl % 1125899906842624) := (by rw [neq]; omega : N % 1125899906842624 = nl % 1125899906842624)
  clear hn neq
  go_wp2_with fail
  refine (magInt64_any t hT.1 hT.2 _).mono ?_
  rintro e _ ⟨rfl, rfl⟩
  go_wp2_with fail
  refine (mul_to (t.natAbs : Int) 1 P hP.out (by omega) (by omega) (by omega) (by omega) _).mono ?_
  rintro e _ ⟨⟨dh, dl, rfl, hd⟩, rfl⟩
  have HP : Hid (Is128 dh dl P) := hd
  clear hd
  go_wp2_with fail
  refine (shr_any nh nl N HN.out _).mono ?_
  rintro e _ ⟨⟨fh, fl, rfl, hf⟩, rfl⟩
  have HF : Hid (Is128 fh fl (N / 1125899906842624)) := hf
  clear hf
  go_wp2_with fail
  refine (add_any128 nh nl N fh fl _ HN.out HF.out _).mono ?_
  rintro e _ ⟨⟨xh, xl, ⟨rfl, hx⟩ | ⟨rfl, hx⟩⟩, rfl⟩
  · exfalso; omega
  have HX : Hid (Is128 xh xl (N + N / 1125899906842624)) := hx
  clear hx
  go_wp2_with fail
  refine (clamp_any dh dl P xh xl _ HP.out HX.out _).mono ?_
  rintro e _ ⟨⟨hi, rfl, hc⟩, rfl⟩
  have hhi : g ≤ hi := hi_law rfl g1 (fun c c0 c1 => (K.out c c0 c1).1) hc
  clear hc
  by_cases hz : (nl % 1125899906842624 != 0) = true
  · have hz' : N % 1125899906842624 ≠ 0 := by rw [HMod.out]; simpa using hz
    have HZ : Hid (N % 1125899906842624 ≠ 0) := hz'
    clear hz'
    go_wp2_with fail
    refine (add_any128 fh fl _ 0 1 1 HF.out ⟨by omega, by omega, by omega, by omega, by omega⟩ _).mono ?_
    rintro e _ ⟨⟨ch, cl, ⟨rfl, hx⟩ | ⟨rfl, hx⟩⟩, rfl⟩
    · exfalso; omega
    have HC : Hid (Is128 ch cl (N / 1125899906842624 + 1)) := hx
    clear hx
    have hle : decide (N / 1125899906842624 + 1 ≤ N) = true := by have := HZ.out; simp; omega
    go_wp2_with fail
    refine (le_any ch cl _ nh nl _ HC.out HN.out _).mono ?_
    rintro e _ ⟨rfl, rfl⟩
    rw [hle]
    go_wp2_with fail
    refine (sub_any128 nh nl _ ch cl _ HN.out HC.out (of_decide_eq_true hle) _).mono ?_
    rintro e _ ⟨⟨yh, yl, rfl, hy⟩, rfl⟩
    have HY : Hid (Is128 yh yl (N - (N / 1125899906842624 + 1))) := hy
    clear hy
    go_wp2_with fail
    refine (clamp_any dh dl P yh yl _ HP.out HY.out _).mono ?_
    rintro e _ ⟨⟨lo, rfl, hc⟩, rfl⟩
    have hlo : lo ≤ g := lo_law rfl (by omega) g0 (fun c c0 c1 => (K.out c c0 c1).2) hc
    clear hc
    go_wp2_with fail
    go_ret
    exact ⟨rfl, HBel.out⟩
  · have hz' : N % 1125899906842624 = 0 := by rw [HMod.out]; simpa using hz
    have HZ : Hid (N % 1125899906842624 = 0) := hz'
    clear hz'
    have hz2 : (nl % 1125899906842624 != 0) = false := by simpa using hz
    clear hz
    have hle : decide (N / 1125899906842624 ≤ N) = true := by simp; omega
    go_wp2_with fail
    refine (le_any fh fl _ nh nl _ HF.out HN.out _).mono ?_
    rintro e _ ⟨rfl, rfl⟩
    rw [hle]
    go_wp2_with fail
    refine (sub_any128 nh nl _ fh fl _ HN.out HF.out (of_decide_eq_true hle) _).mono ?_
    rintro e _ ⟨⟨yh, yl, rfl, hy⟩, rfl⟩
    have HY : Hid (Is128 yh yl (N - N / 1125899906842624)) := hy
    clear hy
    go_wp2_with fail
    refine (clamp_any dh dl P yh yl _ HP.out HY.out _).mono ?_
    rintro e _ ⟨⟨lo, rfl, hc⟩, rfl⟩
    have hlo : lo ≤ g := lo_law rfl (by have := HZ.out; omega) g0 (fun c c0 c1 => (K.out c c0 c1).2) hc
    clear hc
    go_wp2_with fail
    go_ret
    exact ⟨rfl, HBel.out⟩

set_option maxHeartbeats 4000000 in
theorem mid_d (D u l m t B g : Int) (hD : I64 D) (hU : I64 u) (hL : I64 l) (hM : I64 m) (hT : I64 t) (hB : Hid (satSub D u = B)) (hg : Hid (shareVal B l m t = g)) (N P : Int) (n0 : 0 ≤ N) (n1 : N < 170141183460469231731687303715884105728) (h1 : 0 < B) (b1 : B ≤ 9223372036854775807) (h0 : (m == 0) = false) (h3 : (t == 0) = false) (h4 : m < 0) (h5 : t < 0) (hm2 : decide (m < 0) = true) (ht2 : decide (t < 0) = true) (h6 : 1 ≤ l) (hN : Hid (B * (m.natAbs : Int) = N)) (hP : Hid ((t.natAbs : Int) * l = P)) (g0 : 1 ≤ g) (g1 : g ≤ 200)
    (K : Hid (∀ c : Int, 2 ≤ c → c ≤ 200 → (c ≤ g → c * P * 1125899906842624 ≤ N * 1125899906842625) ∧ (c * P * 1125899906842624 ≤ N * 1125899906842623 → c ≤ g))) (w : World) :
    Calls Trym.prog 7 #[.int .i64 D, .int .i64 u, .int .i64 l, .int .i64 m, .int .i64 t] w fun e w' => e = .returned (.bool true) ∧ Below w.heap.size w w' := by
  have hM0 := hM.1
  have hM1 := hM.2
  have hT0 := hT.1
  have hT1 := hT.2
  have hL1 := hL.2
  go_enter Trym.func7, Trym.ntmps7
  go_wp2_with fail
  refine (newPace_any D l m t hD.1 hD.2 _).mono ?_
  rintro e w1 ⟨p, rfl, hp0, hp, hb1⟩
  go_wp2_with fail
  refine (share_to g _ p D l m t u (by rw [hB.out]; exact hg.out) hD hU hL hM hT hp).mono ?_
  rintro e w2 ⟨rfl, hb2⟩
  have hp2 := hp.below hb2 hp.lt
  go_wp2_with fail
  refine (paceDeadline_any _ p D l m t hD.1 hD.2 hp2).mono ?_
  rintro e w3 ⟨rfl, hb3⟩
  have hp3 := hp2.below hb3 hp2.lt
  have z1 := hb1.size
  have z2 := hb2.size
  have HBel : Hid (Below w.heap.size w w3) := hb1.trans ((hb2.mono (by omega)).trans (hb3.mono (by omega)))
  go_wp2_with fail
  refine (paceLeft_any _ p D l m t hp3).mono ?_
  rintro e _ ⟨rfl, rfl⟩
  go_wp2_with fail
  refine (paceMade_any _ p D l m t hp3).mono ?_
  rintro e _ ⟨rfl, rfl⟩
  go_wp2_with fail
  refine (paceTook_any _ p D l m t hp3).mono ?_
  rintro e _ ⟨rfl, rfl⟩
  go_wp2_with fail
  refine (subSat_to B D u hB.out hD hU _).mono ?_
  rintro e _ ⟨rfl, rfl⟩
  clear hb1 hb2 hb3 hp hp2 hp3 z1 z2 hp0
  go_wp2_with fail
  refine (magInt_any m hM.1 hM.2 _).mono ?_
  rintro e _ ⟨rfl, rfl⟩
  go_wp2_with fail
  refine (mul_to B (m.natAbs : Int) N hN.out (by omega) (by omega) (by omega) (by omega) _).mono ?_
  rintro e _ ⟨⟨nh, nl, rfl, hn⟩, rfl⟩
  have HN : Hid (Is128 nh nl N) := hn
  have nl0 := hn.l0
  have nl1 := hn.l1
  have neq := hn.eq
  have hand := W.low50 nl nl0 nl1
  have HMod : Hid (N % 1125899906842624 = nl % 1125899906842624) := (by rw [neq]; omega : N % 1125899906842624 = nl % 1125899906842624)
  clear hn neq
  go_wp2_with fail
  refine (magInt64_any t hT.1 hT.2 _).mono ?_
  rintro e _ ⟨rfl, rfl⟩
  go_wp2_with fail
  refine (mul_to (t.natAbs : Int) l P hP.out (by omega) (by omega) (by omega) (by omega) _).mono ?_
  rintro e _ ⟨⟨dh, dl, rfl, hd⟩, rfl⟩
  have HP : Hid (Is128 dh dl P) := hd
  clear hd
  go_wp2_with fail
  refine (shr_any nh nl N HN.out _).mono ?_
  rintro e _ ⟨⟨fh, fl, rfl, hf⟩, rfl⟩
  have HF : Hid (Is128 fh fl (N / 1125899906842624)) := hf
  clear hf
  go_wp2_with fail
  refine (add_any128 nh nl N fh fl _ HN.out HF.out _).mono ?_
  rintro e _ ⟨⟨xh, xl, ⟨rfl, hx⟩ | ⟨rfl, hx⟩⟩, rfl⟩
  · exfalso; omega
  have HX : Hid (Is128 xh xl (N + N / 1125899906842624)) := hx
  clear hx
  go_wp2_with fail
  refine (clamp_any dh dl P xh xl _ HP.out HX.out _).mono ?_
  rintro e _ ⟨⟨hi, rfl, hc⟩, rfl⟩
  have hhi : g ≤ hi := hi_law rfl g1 (fun c c0 c1 => (K.out c c0 c1).1) hc
  clear hc
  by_cases hz : (nl % 1125899906842624 != 0) = true
  · have hz' : N % 1125899906842624 ≠ 0 := by rw [HMod.out]; simpa using hz
    have HZ : Hid (N % 1125899906842624 ≠ 0) := hz'
    clear hz'
    go_wp2_with fail
    refine (add_any128 fh fl _ 0 1 1 HF.out ⟨by omega, by omega, by omega, by omega, by omega⟩ _).mono ?_
    rintro e _ ⟨⟨ch, cl, ⟨rfl, hx⟩ | ⟨rfl, hx⟩⟩, rfl⟩
    · exfalso; omega
    have HC : Hid (Is128 ch cl (N / 1125899906842624 + 1)) := hx
    clear hx
    have hle : decide (N / 1125899906842624 + 1 ≤ N) = true := by have := HZ.out; simp; omega
    go_wp2_with fail
    refine (le_any ch cl _ nh nl _ HC.out HN.out _).mono ?_
    rintro e _ ⟨rfl, rfl⟩
    rw [hle]
    go_wp2_with fail
    refine (sub_any128 nh nl _ ch cl _ HN.out HC.out (of_decide_eq_true hle) _).mono ?_
    rintro e _ ⟨⟨yh, yl, rfl, hy⟩, rfl⟩
    have HY : Hid (Is128 yh yl (N - (N / 1125899906842624 + 1))) := hy
    clear hy
    go_wp2_with fail
    refine (clamp_any dh dl P yh yl _ HP.out HY.out _).mono ?_
    rintro e _ ⟨⟨lo, rfl, hc⟩, rfl⟩
    have hlo : lo ≤ g := lo_law rfl (by omega) g0 (fun c c0 c1 => (K.out c c0 c1).2) hc
    clear hc
    go_wp2_with fail
    go_ret
    exact ⟨rfl, HBel.out⟩
  · have hz' : N % 1125899906842624 = 0 := by rw [HMod.out]; simpa using hz
    have HZ : Hid (N % 1125899906842624 = 0) := hz'
    clear hz'
    have hz2 : (nl % 1125899906842624 != 0) = false := by simpa using hz
    clear hz
    have hle : decide (N / 1125899906842624 ≤ N) = true := by simp; omega
    go_wp2_with fail
    refine (le_any fh fl _ nh nl _ HF.out HN.out _).mono ?_
    rintro e _ ⟨rfl, rfl⟩
    rw [hle]
    go_wp2_with fail
    refine (sub_any128 nh nl _ fh fl _ HN.out HF.out (of_decide_eq_true hle) _).mono ?_
    rintro e _ ⟨⟨yh, yl, rfl, hy⟩, rfl⟩
    have HY : Hid (Is128 yh yl (N - N / 1125899906842624)) := hy
    clear hy
    go_wp2_with fail
    refine (clamp_any dh dl P yh yl _ HP.out HY.out _).mono ?_
    rintro e _ ⟨⟨lo, rfl, hc⟩, rfl⟩
    have hlo : lo ≤ g := lo_law rfl (by have := HZ.out; omega) g0 (fun c c0 c1 => (K.out c c0 c1).2) hc
    clear hc
    go_wp2_with fail
    go_ret
    exact ⟨rfl, HBel.out⟩

theorem walk (D u l m t : Int) (hD : I64 D) (hU : I64 u) (hL : I64 l) (hM : I64 m) (hT : I64 t) (w : World) :
    Calls Trym.prog 7 #[.int .i64 D, .int .i64 u, .int .i64 l, .int .i64 m, .int .i64 t] w fun e w' => e = .returned (.bool true) ∧ Below w.heap.size w w' := by
  obtain ⟨B, hB⟩ : ∃ B, satSub D u = B := ⟨_, rfl⟩
  obtain ⟨g, hg⟩ : ∃ g, shareVal B l m t = g := ⟨_, rfl⟩
  have b1 : B ≤ 9223372036854775807 := by rw [← hB]; exact sat_hi D u
  obtain ⟨g0, g1⟩ := share_range B l m t b1 hM hT hL
  rw [hg] at g0 g1
  by_cases h1 : B ≤ 0
  · exact late D u l m t B g hD hU hL hM hT hB hg h1 (by rw [← hg]; unfold shareVal; rw [if_pos h1]; rfl) w
  by_cases h0 : m = 0
  · exact unmade D u l m t B g hD hU hL hM hT hB hg (by omega) (by simp [h0]) (by rw [← hg]; unfold shareVal; rw [if_neg h1, if_pos h0]; rfl) w
  have h0' : (m == 0) = false := by simp [h0]
  by_cases h3 : t = 0
  · subst h3
    have e := share_took0 B l m (by omega) b1 h0 hM hL
    rw [hg] at e
    by_cases h4 : m < 0
    · exact took0b D u l m 0 B g hD hU hL hM hT hB hg (by omega) h0' rfl h4 (by rw [e, if_pos h4]; rfl) w
    · exact took0a D u l m 0 B g hD hU hL hM hT hB hg (by omega) h0' rfl (by omega) (by rw [e, if_neg h4]; rfl) w
  have h3' : (t == 0) = false := by simp [h3]
  have key : (decide (t < 0) ^^ decide (m < 0)) = true → (g == 1) = true := fun hs => by
    rw [← hg, share_signs B l m t (by omega) b1 h0 h3 hM hT hL hs]; rfl
  have K0 := share_mid B l m t (by omega) b1 h0 h3 hM hT hL
  rw [hg] at K0
  have eN : ((B.natAbs * m.natAbs : Nat) : Int) = B * (m.natAbs : Int) := by
    rw [Int.natCast_mul]; congr 1; omega
  have eP : ((t.natAbs * (lm l).natAbs : Nat) : Int) = (t.natAbs : Int) * lm l := by
    rw [Int.natCast_mul]; congr 1; have := lm_ge l; omega
  rw [eN, eP] at K0
  have n0 : 0 ≤ B * (m.natAbs : Int) := Int.mul_nonneg (by omega) (by omega)
  have n1 : B * (m.natAbs : Int) < 170141183460469231731687303715884105728 := by
    have a := Int.mul_le_mul (show B ≤ 9223372036854775807 from b1) (show (m.natAbs : Int) ≤ 9223372036854775808 by have := hM.1; have := hM.2; omega) (by omega) (by omega)
    omega
  by_cases h4 : m < 0
  · by_cases h5 : t < 0
    · have K := K0 (by simp [h4, h5])
      by_cases h6 : l < 1
      · rw [show lm l = 1 by unfold lm; rw [if_pos h6]] at K
        exact mid_c D u l m t B g hD hU hL hM hT hB hg _ _ n0 n1 (by omega) b1 h0' h3' h4 h5 (by simp [h4]) (by simp [h5]) h6 rfl rfl g0 g1 K w
      · rw [show lm l = l by unfold lm; rw [if_neg h6]] at K
        exact mid_d D u l m t B g hD hU hL hM hT hB hg _ _ n0 n1 (by omega) b1 h0' h3' h4 h5 (by simp [h4]) (by simp [h5]) (by omega) rfl rfl g0 g1 K w
    · exact signsb D u l m t B g hD hU hL hM hT hB hg (by omega) h0' h3' h4 (by omega) (by simp [h4]) (by simp [h5]) (key (by simp [h4, h5])) w
  · by_cases h5 : t < 0
    · exact signsa D u l m t B g hD hU hL hM hT hB hg (by omega) h0' h3' (by omega) h5 (by simp [h4]) (by simp [h5]) (key (by simp [h4, h5])) w
    · have K := K0 (by simp [h4, h5])
      by_cases h6 : l < 1
      · rw [show lm l = 1 by unfold lm; rw [if_pos h6]] at K
        exact mid_a D u l m t B g hD hU hL hM hT hB hg _ _ n0 n1 (by omega) b1 h0' h3' (by omega) (by omega) (by simp [h4]) (by simp [h5]) h6 rfl rfl g0 g1 K w
      · rw [show lm l = l by unfold lm; rw [if_neg h6]] at K
        exact mid_b D u l m t B g hD hU hL hM hT hB hg _ _ n0 n1 (by omega) b1 h0' h3' (by omega) (by omega) (by simp [h4]) (by simp [h5]) (by omega) rfl rfl g0 g1 K w
end Go.Proofs.Qxb6603509aMods.fnPaceShareIsClampedFloorOfTimeOverNeed
