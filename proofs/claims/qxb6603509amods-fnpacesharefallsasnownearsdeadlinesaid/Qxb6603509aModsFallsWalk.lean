/-
  THE WALK AND THE PLAIN LAW of 'FnPaceShareFallsAsNowNearsDeadline'.
-/
import Derived.Test.Qxb6603509aModsShare
namespace Go.Proofs.Qxb6603509aMods.fnPaceShareFallsAsNowNearsDeadline
open Go.RowKit

theorem bounds (a : Int) (h : (Lit.int .i64 a).wf = true) : I64 a := by
  simpa [Lit.wf, I64, IntKind.min, IntKind.max, IntKind.bits, IntKind.signed] using h

theorem share_to (k : Int) (w : World) (b : Nat) (D l m t u : Int) (hk : shareVal (satSub D u) l m t = k) (hD : I64 D) (hu : I64 u) (hl : I64 l) (hm : I64 m) (ht : I64 t) (hp : PaceAt w b D l m t) :
    Calls Trym.prog 39 #[.pointer (some ⟨b, 0, none⟩), .int .i64 u] w fun e w' => e = .returned (.int .i64 k) ∧ Below w.heap.size w w' := by
  subst hk; exact share_any w b D l m t u hD hu hl hm ht hp

/-! ### THE PLAIN LAW -/
theorem sat_mono (D u v : Int) (h : u ≤ v) : satSub D v ≤ satSub D u := by
  unfold satSub; split <;> split <;> (try split) <;> (try split) <;> omega
theorem sat_self (D : Int) : satSub D D = 0 := by unfold satSub; split; omega; split <;> omega
theorem sat_pos (D u : Int) (h : u < D) : 0 < satSub D u := by unfold satSub; split; omega; split <;> omega
theorem at_deadline (D l m t : Int) : shareVal (satSub D D) l m t = 1 := by rw [sat_self]; rfl
theorem unmade (D u l t : Int) (h : u < D) : shareVal (satSub D u) l 0 t = 200 := by
  have := sat_pos D u h
  unfold shareVal; rw [if_neg (by omega), if_pos rfl]

set_option maxHeartbeats 2000000 in
theorem fwd_a (D u v l m t s1 s2 : Int) (hD : I64 D) (hE : I64 u) (hA : I64 v) (hL : I64 l) (hM : I64 m) (hT : I64 t) (hc : u ≤ v) (h0 : (m == 0) = false)
    (k1 : Hid (shareVal (satSub D u) l m t = s1)) (k2 : Hid (shareVal (satSub D v) l m t = s2)) (r0 : 1 ≤ s2) (r1 : s2 ≤ s1) (r2 : s1 ≤ 200) (w : World) :
    Calls Trym.prog 8 #[.int .i64 D, .int .i64 u, .int .i64 v, .int .i64 l, .int .i64 m, .int .i64 t] w fun e w' => e = .returned (.bool true) ∧ Below w.heap.size w w' := by
  go_enter Trym.func8, Trym.ntmps8
  go_wp2_with fail
  refine (newPace_any D l m t hD.1 hD.2 _).mono ?_
  rintro e w1 ⟨p, rfl, hp0, hp, hb1⟩
  go_wp2_with fail
  refine (share_to s1 _ p D l m t u k1.out hD hE hL hM hT hp).mono ?_
  rintro e w2 ⟨rfl, hb2⟩
  have hp2 := hp.below hb2 hp.lt
  go_wp2_with fail
  refine (share_to s2 _ p D l m t v k2.out hD hA hL hM hT hp2).mono ?_
  rintro e w3 ⟨rfl, hb3⟩
  have hp3 := hp2.below hb3 hp2.lt
  go_wp2_with fail
  refine (share_to 1 _ p D l m t D (at_deadline D l m t) hD hD hL hM hT hp3).mono ?_
  rintro e w4 ⟨rfl, hb4⟩
  have hp4 := hp3.below hb4 hp3.lt
  go_wp2_with fail
  refine (paceDeadline_any _ p D l m t hD.1 hD.2 hp4).mono ?_
  rintro e w5 ⟨rfl, hb5⟩
  have hp5 := hp4.below hb5 hp4.lt
  go_wp2_with fail
  refine (paceLeft_any _ p D l m t hp5).mono ?_
  rintro e _ ⟨rfl, rfl⟩
  go_wp2_with fail
  refine (paceMade_any _ p D l m t hp5).mono ?_
  rintro e _ ⟨rfl, rfl⟩
  go_wp2_with fail
  refine (paceTook_any _ p D l m t hp5).mono ?_
  rintro e _ ⟨rfl, rfl⟩
  go_wp2_with fail
  go_ret
  have z1 := hb1.size
  have z2 := hb2.size
  have z3 := hb3.size
  have z4 := hb4.size
  exact ⟨rfl, hb1.trans ((hb2.mono (by omega)).trans ((hb3.mono (by omega)).trans ((hb4.mono (by omega)).trans (hb5.mono (by omega)))))⟩

set_option maxHeartbeats 2000000 in
theorem fwd_b (D u v l m t s1 s2 : Int) (hD : I64 D) (hE : I64 u) (hA : I64 v) (hL : I64 l) (hM : I64 m) (hT : I64 t) (hc : u ≤ v) (h0 : (m == 0) = true) (hlt : u < D) (hs : (s1 != 200) = false)
    (k1 : Hid (shareVal (satSub D u) l m t = s1)) (k2 : Hid (shareVal (satSub D v) l m t = s2)) (r0 : 1 ≤ s2) (r1 : s2 ≤ s1) (r2 : s1 ≤ 200) (w : World) :
    Calls Trym.prog 8 #[.int .i64 D, .int .i64 u, .int .i64 v, .int .i64 l, .int .i64 m, .int .i64 t] w fun e w' => e = .returned (.bool true) ∧ Below w.heap.size w w' := by
  go_enter Trym.func8, Trym.ntmps8
  go_wp2_with fail
  refine (newPace_any D l m t hD.1 hD.2 _).mono ?_
  rintro e w1 ⟨p, rfl, hp0, hp, hb1⟩
  go_wp2_with fail
  refine (share_to s1 _ p D l m t u k1.out hD hE hL hM hT hp).mono ?_
  rintro e w2 ⟨rfl, hb2⟩
  have hp2 := hp.below hb2 hp.lt
  go_wp2_with fail
  refine (share_to s2 _ p D l m t v k2.out hD hA hL hM hT hp2).mono ?_
  rintro e w3 ⟨rfl, hb3⟩
  have hp3 := hp2.below hb3 hp2.lt
  go_wp2_with fail
  refine (share_to 1 _ p D l m t D (at_deadline D l m t) hD hD hL hM hT hp3).mono ?_
  rintro e w4 ⟨rfl, hb4⟩
  have hp4 := hp3.below hb4 hp3.lt
  go_wp2_with fail
  refine (paceDeadline_any _ p D l m t hD.1 hD.2 hp4).mono ?_
  rintro e w5 ⟨rfl, hb5⟩
  have hp5 := hp4.below hb5 hp4.lt
  go_wp2_with fail
  refine (paceLeft_any _ p D l m t hp5).mono ?_
  rintro e _ ⟨rfl, rfl⟩
  go_wp2_with fail
  refine (paceMade_any _ p D l m t hp5).mono ?_
  rintro e _ ⟨rfl, rfl⟩
  go_wp2_with fail
  refine (paceTook_any _ p D l m t hp5).mono ?_
  rintro e _ ⟨rfl, rfl⟩
  go_wp2_with fail
  go_ret
  have z1 := hb1.size
  have z2 := hb2.size
  have z3 := hb3.size
  have z4 := hb4.size
  exact ⟨rfl, hb1.trans ((hb2.mono (by omega)).trans ((hb3.mono (by omega)).trans ((hb4.mono (by omega)).trans (hb5.mono (by omega)))))⟩

set_option maxHeartbeats 2000000 in
theorem fwd_c (D u v l m t s1 s2 : Int) (hD : I64 D) (hE : I64 u) (hA : I64 v) (hL : I64 l) (hM : I64 m) (hT : I64 t) (hc : u ≤ v) (h0 : (m == 0) = true) (hlt : decide (u < D) = false)
    (k1 : Hid (shareVal (satSub D u) l m t = s1)) (k2 : Hid (shareVal (satSub D v) l m t = s2)) (r0 : 1 ≤ s2) (r1 : s2 ≤ s1) (r2 : s1 ≤ 200) (w : World) :
    Calls Trym.prog 8 #[.int .i64 D, .int .i64 u, .int .i64 v, .int .i64 l, .int .i64 m, .int .i64 t] w fun e w' => e = .returned (.bool true) ∧ Below w.heap.size w w' := by
  go_enter Trym.func8, Trym.ntmps8
  go_wp2_with fail
  refine (newPace_any D l m t hD.1 hD.2 _).mono ?_
  rintro e w1 ⟨p, rfl, hp0, hp, hb1⟩
  go_wp2_with fail
  refine (share_to s1 _ p D l m t u k1.out hD hE hL hM hT hp).mono ?_
  rintro e w2 ⟨rfl, hb2⟩
  have hp2 := hp.below hb2 hp.lt
  go_wp2_with fail
  refine (share_to s2 _ p D l m t v k2.out hD hA hL hM hT hp2).mono ?_
  rintro e w3 ⟨rfl, hb3⟩
  have hp3 := hp2.below hb3 hp2.lt
  go_wp2_with fail
  refine (share_to 1 _ p D l m t D (at_deadline D l m t) hD hD hL hM hT hp3).mono ?_
  rintro e w4 ⟨rfl, hb4⟩
  have hp4 := hp3.below hb4 hp3.lt
  go_wp2_with fail
  refine (paceDeadline_any _ p D l m t hD.1 hD.2 hp4).mono ?_
  rintro e w5 ⟨rfl, hb5⟩
  have hp5 := hp4.below hb5 hp4.lt
  go_wp2_with fail
  refine (paceLeft_any _ p D l m t hp5).mono ?_
  rintro e _ ⟨rfl, rfl⟩
  go_wp2_with fail
  refine (paceMade_any _ p D l m t hp5).mono ?_
  rintro e _ ⟨rfl, rfl⟩
  go_wp2_with fail
  refine (paceTook_any _ p D l m t hp5).mono ?_
  rintro e _ ⟨rfl, rfl⟩
  go_wp2_with fail
  go_ret
  have z1 := hb1.size
  have z2 := hb2.size
  have z3 := hb3.size
  have z4 := hb4.size
  exact ⟨rfl, hb1.trans ((hb2.mono (by omega)).trans ((hb3.mono (by omega)).trans ((hb4.mono (by omega)).trans (hb5.mono (by omega)))))⟩

set_option maxHeartbeats 2000000 in
theorem bwd_a (D u v l m t s1 s2 : Int) (hD : I64 D) (hE : I64 v) (hA : I64 u) (hL : I64 l) (hM : I64 m) (hT : I64 t) (hc : v < u) (h0 : (m == 0) = false)
    (k1 : Hid (shareVal (satSub D v) l m t = s1)) (k2 : Hid (shareVal (satSub D u) l m t = s2)) (r0 : 1 ≤ s2) (r1 : s2 ≤ s1) (r2 : s1 ≤ 200) (w : World) :
    Calls Trym.prog 8 #[.int .i64 D, .int .i64 u, .int .i64 v, .int .i64 l, .int .i64 m, .int .i64 t] w fun e w' => e = .returned (.bool true) ∧ Below w.heap.size w w' := by
  go_enter Trym.func8, Trym.ntmps8
  go_wp2_with fail
  refine (newPace_any D l m t hD.1 hD.2 _).mono ?_
  rintro e w1 ⟨p, rfl, hp0, hp, hb1⟩
  go_wp2_with fail
  refine (share_to s1 _ p D l m t v k1.out hD hE hL hM hT hp).mono ?_
  rintro e w2 ⟨rfl, hb2⟩
  have hp2 := hp.below hb2 hp.lt
  go_wp2_with fail
  refine (share_to s2 _ p D l m t u k2.out hD hA hL hM hT hp2).mono ?_
  rintro e w3 ⟨rfl, hb3⟩
  have hp3 := hp2.below hb3 hp2.lt
  go_wp2_with fail
  refine (share_to 1 _ p D l m t D (at_deadline D l m t) hD hD hL hM hT hp3).mono ?_
  rintro e w4 ⟨rfl, hb4⟩
  have hp4 := hp3.below hb4 hp3.lt
  go_wp2_with fail
  refine (paceDeadline_any _ p D l m t hD.1 hD.2 hp4).mono ?_
  rintro e w5 ⟨rfl, hb5⟩
  have hp5 := hp4.below hb5 hp4.lt
  go_wp2_with fail
  refine (paceLeft_any _ p D l m t hp5).mono ?_
  rintro e _ ⟨rfl, rfl⟩
  go_wp2_with fail
  refine (paceMade_any _ p D l m t hp5).mono ?_
  rintro e _ ⟨rfl, rfl⟩
  go_wp2_with fail
  refine (paceTook_any _ p D l m t hp5).mono ?_
  rintro e _ ⟨rfl, rfl⟩
  go_wp2_with fail
  go_ret
  have z1 := hb1.size
  have z2 := hb2.size
  have z3 := hb3.size
  have z4 := hb4.size
  exact ⟨rfl, hb1.trans ((hb2.mono (by omega)).trans ((hb3.mono (by omega)).trans ((hb4.mono (by omega)).trans (hb5.mono (by omega)))))⟩

set_option maxHeartbeats 2000000 in
theorem bwd_b (D u v l m t s1 s2 : Int) (hD : I64 D) (hE : I64 v) (hA : I64 u) (hL : I64 l) (hM : I64 m) (hT : I64 t) (hc : v < u) (h0 : (m == 0) = true) (hlt : v < D) (hs : (s1 != 200) = false)
    (k1 : Hid (shareVal (satSub D v) l m t = s1)) (k2 : Hid (shareVal (satSub D u) l m t = s2)) (r0 : 1 ≤ s2) (r1 : s2 ≤ s1) (r2 : s1 ≤ 200) (w : World) :
    Calls Trym.prog 8 #[.int .i64 D, .int .i64 u, .int .i64 v, .int .i64 l, .int .i64 m, .int .i64 t] w fun e w' => e = .returned (.bool true) ∧ Below w.heap.size w w' := by
  go_enter Trym.func8, Trym.ntmps8
  go_wp2_with fail
  refine (newPace_any D l m t hD.1 hD.2 _).mono ?_
  rintro e w1 ⟨p, rfl, hp0, hp, hb1⟩
  go_wp2_with fail
  refine (share_to s1 _ p D l m t v k1.out hD hE hL hM hT hp).mono ?_
  rintro e w2 ⟨rfl, hb2⟩
  have hp2 := hp.below hb2 hp.lt
  go_wp2_with fail
  refine (share_to s2 _ p D l m t u k2.out hD hA hL hM hT hp2).mono ?_
  rintro e w3 ⟨rfl, hb3⟩
  have hp3 := hp2.below hb3 hp2.lt
  go_wp2_with fail
  refine (share_to 1 _ p D l m t D (at_deadline D l m t) hD hD hL hM hT hp3).mono ?_
  rintro e w4 ⟨rfl, hb4⟩
  have hp4 := hp3.below hb4 hp3.lt
  go_wp2_with fail
  refine (paceDeadline_any _ p D l m t hD.1 hD.2 hp4).mono ?_
  rintro e w5 ⟨rfl, hb5⟩
  have hp5 := hp4.below hb5 hp4.lt
  go_wp2_with fail
  refine (paceLeft_any _ p D l m t hp5).mono ?_
  rintro e _ ⟨rfl, rfl⟩
  go_wp2_with fail
  refine (paceMade_any _ p D l m t hp5).mono ?_
  rintro e _ ⟨rfl, rfl⟩
  go_wp2_with fail
  refine (paceTook_any _ p D l m t hp5).mono ?_
  rintro e _ ⟨rfl, rfl⟩
  go_wp2_with fail
  go_ret
  have z1 := hb1.size
  have z2 := hb2.size
  have z3 := hb3.size
  have z4 := hb4.size
  exact ⟨rfl, hb1.trans ((hb2.mono (by omega)).trans ((hb3.mono (by omega)).trans ((hb4.mono (by omega)).trans (hb5.mono (by omega)))))⟩

set_option maxHeartbeats 2000000 in
theorem bwd_c (D u v l m t s1 s2 : Int) (hD : I64 D) (hE : I64 v) (hA : I64 u) (hL : I64 l) (hM : I64 m) (hT : I64 t) (hc : v < u) (h0 : (m == 0) = true) (hlt : decide (v < D) = false)
    (k1 : Hid (shareVal (satSub D v) l m t = s1)) (k2 : Hid (shareVal (satSub D u) l m t = s2)) (r0 : 1 ≤ s2) (r1 : s2 ≤ s1) (r2 : s1 ≤ 200) (w : World) :
    Calls Trym.prog 8 #[.int .i64 D, .int .i64 u, .int .i64 v, .int .i64 l, .int .i64 m, .int .i64 t] w fun e w' => e = .returned (.bool true) ∧ Below w.heap.size w w' := by
  go_enter Trym.func8, Trym.ntmps8
  go_wp2_with fail
  refine (newPace_any D l m t hD.1 hD.2 _).mono ?_
  rintro e w1 ⟨p, rfl, hp0, hp, hb1⟩
  go_wp2_with fail
  refine (share_to s1 _ p D l m t v k1.out hD hE hL hM hT hp).mono ?_
  rintro e w2 ⟨rfl, hb2⟩
  have hp2 := hp.below hb2 hp.lt
  go_wp2_with fail
  refine (share_to s2 _ p D l m t u k2.out hD hA hL hM hT hp2).mono ?_
  rintro e w3 ⟨rfl, hb3⟩
  have hp3 := hp2.below hb3 hp2.lt
  go_wp2_with fail
  refine (share_to 1 _ p D l m t D (at_deadline D l m t) hD hD hL hM hT hp3).mono ?_
  rintro e w4 ⟨rfl, hb4⟩
  have hp4 := hp3.below hb4 hp3.lt
  go_wp2_with fail
  refine (paceDeadline_any _ p D l m t hD.1 hD.2 hp4).mono ?_
  rintro e w5 ⟨rfl, hb5⟩
  have hp5 := hp4.below hb5 hp4.lt
  go_wp2_with fail
  refine (paceLeft_any _ p D l m t hp5).mono ?_
  rintro e _ ⟨rfl, rfl⟩
  go_wp2_with fail
  refine (paceMade_any _ p D l m t hp5).mono ?_
  rintro e _ ⟨rfl, rfl⟩
  go_wp2_with fail
  refine (paceTook_any _ p D l m t hp5).mono ?_
  rintro e _ ⟨rfl, rfl⟩
  go_wp2_with fail
  go_ret
  have z1 := hb1.size
  have z2 := hb2.size
  have z3 := hb3.size
  have z4 := hb4.size
  exact ⟨rfl, hb1.trans ((hb2.mono (by omega)).trans ((hb3.mono (by omega)).trans ((hb4.mono (by omega)).trans (hb5.mono (by omega)))))⟩

theorem walk (a0 : Int) (a1 : Int) (a2 : Int) (a3 : Int) (a4 : Int) (a5 : Int) (w0 : (Lit.int .i64 a0).wf = true) (w1 : (Lit.int .i64 a1).wf = true) (w2 : (Lit.int .i64 a2).wf = true) (w3 : (Lit.int .i64 a3).wf = true) (w4 : (Lit.int .i64 a4).wf = true) (w5 : (Lit.int .i64 a5).wf = true) (w : World) :
    Calls Trym.prog 8 #[.int .i64 a0, .int .i64 a1, .int .i64 a2, .int .i64 a3, .int .i64 a4, .int .i64 a5] w fun e w' => e = .returned (.bool true) ∧ Below w.heap.size w w' := by
  have b0 := bounds a0 w0
  have b1 := bounds a1 w1
  have b2 := bounds a2 w2
  have b3 := bounds a3 w3
  have b4 := bounds a4 w4
  have b5 := bounds a5 w5
  by_cases hc : a1 ≤ a2
  · have f0 := (share_range (satSub a0 a2) a3 a4 a5 (sat_hi _ _) b4 b5 b3).1
    have f1 := share_falls _ _ a3 a4 a5 (sat_mono a0 a1 a2 hc) (sat_hi _ _) b4 b5 b3
    have f2 := (share_range (satSub a0 a1) a3 a4 a5 (sat_hi _ _) b4 b5 b3).2
    by_cases h0 : a4 = 0
    · by_cases hlt : a1 < a0
      · have hs : (shareVal (satSub a0 a1) a3 a4 a5 != 200) = false := by rw [h0, unmade a0 a1 a3 a5 hlt]; rfl
        exact fwd_b a0 a1 a2 a3 a4 a5 _ _ b0 b1 b2 b3 b4 b5 hc (by simp [h0]) hlt hs rfl rfl f0 f1 f2 w
      · exact fwd_c a0 a1 a2 a3 a4 a5 _ _ b0 b1 b2 b3 b4 b5 hc (by simp [h0]) (by simpa using hlt) rfl rfl f0 f1 f2 w
    · exact fwd_a a0 a1 a2 a3 a4 a5 _ _ b0 b1 b2 b3 b4 b5 hc (by simp [h0]) rfl rfl f0 f1 f2 w
  · have hc' : a2 < a1 := by omega
    have f0 := (share_range (satSub a0 a1) a3 a4 a5 (sat_hi _ _) b4 b5 b3).1
    have f1 := share_falls _ _ a3 a4 a5 (sat_mono a0 a2 a1 (by omega)) (sat_hi _ _) b4 b5 b3
    have f2 := (share_range (satSub a0 a2) a3 a4 a5 (sat_hi _ _) b4 b5 b3).2
    by_cases h0 : a4 = 0
    · by_cases hlt : a2 < a0
      · have hs : (shareVal (satSub a0 a2) a3 a4 a5 != 200) = false := by rw [h0, unmade a0 a2 a3 a5 hlt]; rfl
        exact bwd_b a0 a1 a2 a3 a4 a5 _ _ b0 b2 b1 b3 b4 b5 hc' (by simp [h0]) hlt hs rfl rfl f0 f1 f2 w
      · exact bwd_c a0 a1 a2 a3 a4 a5 _ _ b0 b2 b1 b3 b4 b5 hc' (by simp [h0]) (by simpa using hlt) rfl rfl f0 f1 f2 w
    · exact bwd_a a0 a1 a2 a3 a4 a5 _ _ b0 b2 b1 b3 b4 b5 hc' (by simp [h0]) rfl rfl f0 f1 f2 w
end Go.Proofs.Qxb6603509aMods.fnPaceShareFallsAsNowNearsDeadline
