import Derived.Test.Qxb6603509aModsSub
namespace Go.Proofs.Qxb6603509aMods
open Go.RowKit

/-- A pace lies in block b: its deadline D (nanoseconds after the zero time), left, made, took; its cells may be written. -/
structure PaceAt (w : World) (b : Nat) (D left made took : Int) : Prop where
  c0 : w.cell? ⟨b, 0, none⟩ = some (.int .u64 (D % 1000000000))
  c1 : w.cell? ⟨b, 1, none⟩ = some (.int .i64 (D / 1000000000))
  c2 : w.cell? ⟨b, 2, none⟩ = some (.pointer none)
  c3 : w.cell? ⟨b, 3, none⟩ = some (.int .i64 left)
  c4 : w.cell? ⟨b, 4, none⟩ = some (.int .i64 made)
  c5 : w.cell? ⟨b, 5, none⟩ = some (.int .i64 took)
  f3 : w.frozen? ⟨b, 3, none⟩ = false
  f4 : w.frozen? ⟨b, 4, none⟩ = false
  lt : b < w.heap.size

theorem PaceAt.below {w w' : World} {b : Nat} {D l m t : Int} (h : PaceAt w b D l m t) {B : Nat} (hb : Below B w w') (hB : b < B) : PaceAt w' b D l m t :=
  ⟨(hb.cell (p := ⟨b, 0, none⟩) hB).trans h.c0, (hb.cell (p := ⟨b, 1, none⟩) hB).trans h.c1, (hb.cell (p := ⟨b, 2, none⟩) hB).trans h.c2, (hb.cell (p := ⟨b, 3, none⟩) hB).trans h.c3,
    (hb.cell (p := ⟨b, 4, none⟩) hB).trans h.c4, (hb.cell (p := ⟨b, 5, none⟩) hB).trans h.c5, (hb.frozen (p := ⟨b, 3, none⟩) hB).trans h.f3, (hb.frozen (p := ⟨b, 4, none⟩) hB).trans h.f4, Nat.lt_of_lt_of_le h.lt hb.size⟩

set_option maxHeartbeats 1000000 in
theorem newPace_any (D l m t : Int) (h0 : -9223372036854775808 ≤ D) (h1 : D ≤ 9223372036854775807) (w : World) :
    Calls Trym.prog 33 #[.int .i64 D, .int .i64 l, .int .i64 m, .int .i64 t] w fun e w' => ∃ b, e = .returned (.pointer (some ⟨b, 0, none⟩)) ∧ w.heap.size ≤ b ∧ PaceAt w' b D l m t ∧ Below w.heap.size w w' := by
  go_enter Trym.func33, Trym.ntmps33
  go_wp2_with (go_at_call 52; refine (add_any 0 0 D (by omega) (by omega) (by omega) (by omega) h0 h1 _).mono ?_; rintro e w1 ⟨rfl, hb1⟩; rw [tv_eq])
  go_ret
  have hz := hb1.size
  refine ⟨w1.heap.size, rfl, hz, ⟨?_, ?_, ?_, ?_, ?_, ?_, ?_, ?_, ?_⟩, hb1.alloc hz _⟩ <;> simp [go_sem]

set_option maxHeartbeats 1000000 in
theorem paceMade_any (w : World) (b : Nat) (D l m t : Int) (hp : PaceAt w b D l m t) :
    Calls Trym.prog 35 #[.pointer (some ⟨b, 0, none⟩)] w fun e w' => e = .returned (.int .i64 m) ∧ w' = w := by
  obtain ⟨c0, c1, c2, c3, c4, c5, f3, f4, lt⟩ := hp
  go_enter Trym.func35, Trym.ntmps35
  go_wp2
  go_ret
  exact ⟨rfl, rfl⟩
theorem paceLeft_any (w : World) (b : Nat) (D l m t : Int) (hp : PaceAt w b D l m t) :
    Calls Trym.prog 36 #[.pointer (some ⟨b, 0, none⟩)] w fun e w' => e = .returned (.int .i64 l) ∧ w' = w := by
  obtain ⟨c0, c1, c2, c3, c4, c5, f3, f4, lt⟩ := hp
  go_enter Trym.func36, Trym.ntmps36
  go_wp2
  go_ret
  exact ⟨rfl, rfl⟩
theorem paceTook_any (w : World) (b : Nat) (D l m t : Int) (hp : PaceAt w b D l m t) :
    Calls Trym.prog 37 #[.pointer (some ⟨b, 0, none⟩)] w fun e w' => e = .returned (.int .i64 t) ∧ w' = w := by
  obtain ⟨c0, c1, c2, c3, c4, c5, f3, f4, lt⟩ := hp
  go_enter Trym.func37, Trym.ntmps37
  go_wp2
  go_ret
  exact ⟨rfl, rfl⟩
theorem sat_zero (D : Int) (h0 : -9223372036854775808 ≤ D) (h1 : D ≤ 9223372036854775807) : satSub D 0 = D := by
  unfold satSub; split
  · omega
  · split <;> omega
set_option maxHeartbeats 1000000 in
theorem paceDeadline_any (w : World) (b : Nat) (D l m t : Int) (h0 : -9223372036854775808 ≤ D) (h1 : D ≤ 9223372036854775807) (hp : PaceAt w b D l m t) :
    Calls Trym.prog 38 #[.pointer (some ⟨b, 0, none⟩)] w fun e w' => e = .returned (.int .i64 D) ∧ Below w.heap.size w w' := by
  obtain ⟨c0, c1, c2, c3, c4, c5, f3, f4, lt⟩ := hp
  go_enter Trym.func38, Trym.ntmps38
  go_wp2_with (go_at_call 54; refine (sub_any D 0 h0 h1 (by omega) (by omega) _).mono ?_; rintro e w1 ⟨rfl, hb1⟩; rw [sat_zero D h0 h1])
  go_ret
  exact ⟨rfl, hb1⟩

/-- What 'max(left - n, 0)' gives. -/
def cutLeft (l n : Int) : Int := if wrap64 (l - n) < 0 then 0 else wrap64 (l - n)

/-- The world behind pieceMade. -/
def pieced (w : World) (b : Nat) (l m : Int) : World := (w.setCell ⟨b, 4, none⟩ (.int .i64 m)).setCell ⟨b, 3, none⟩ (.int .i64 l)

theorem PaceAt.pieced {w : World} {b : Nat} {D l m t : Int} (h : PaceAt w b D l m t) (l' m' : Int) : PaceAt (pieced w b l' m') b D l' m' t := by
  obtain ⟨c0, c1, c2, c3, c4, c5, f3, f4, lt⟩ := h
  unfold Go.Proofs.Qxb6603509aMods.pieced
  refine ⟨?_, ?_, ?_, ?_, ?_, ?_, ?_, ?_, ?_⟩ <;> simp [go_sem, *]

theorem pieced_block (w : World) (b : Nat) (l m : Int) (k : Nat) (hk : k ≠ b) : (pieced w b l m).heap[k]? = w.heap[k]? := by
  unfold pieced
  rw [Below.heap_setCell _ _ _ _ hk, Below.heap_setCell _ _ _ _ hk]

theorem pieced_size (w : World) (b : Nat) (l m : Int) : (pieced w b l m).heap.size = w.heap.size := by
  simp [pieced, World.setCell]

theorem PaceAt.other {w : World} {b : Nat} {D l m t : Int} (h : PaceAt w b D l m t) {b' : Nat} (hne : b ≠ b') (l' m' : Int) : PaceAt (Go.Proofs.Qxb6603509aMods.pieced w b' l' m') b D l m t := by
  have hk := pieced_block w b' l' m' b hne
  exact ⟨(World.cell?_of_block (w := w) hk).trans h.c0, (World.cell?_of_block (w := w) hk).trans h.c1, (World.cell?_of_block (w := w) hk).trans h.c2, (World.cell?_of_block (w := w) hk).trans h.c3,
    (World.cell?_of_block (w := w) hk).trans h.c4, (World.cell?_of_block (w := w) hk).trans h.c5, (World.frozen?_of_block (w := w) hk).trans h.f3, (World.frozen?_of_block (w := w) hk).trans h.f4, by rw [pieced_size]; exact h.lt⟩

theorem below_pieced {B : Nat} {a w : World} (h : Below B a w) {b : Nat} (hb : B ≤ b) (l m : Int) : Below B a (Go.Proofs.Qxb6603509aMods.pieced w b l m) :=
  (h.setCell (p := ⟨b, 4, none⟩) hb _).setCell (p := ⟨b, 3, none⟩) hb _

set_option maxHeartbeats 1000000 in
/-- pieceMade: made grows (as an int does), left is cut at 0. -/
theorem pieceMade_any (w : World) (b : Nat) (D l m t n : Int) (hp : PaceAt w b D l m t) :
    Calls Trym.prog 34 #[.pointer (some ⟨b, 0, none⟩), .int .i64 n] w fun e w' => e = .returned (.tuple #[]) ∧ w' = pieced w b (cutLeft l n) (wrap64 (m + n)) := by
  obtain ⟨c0, c1, c2, c3, c4, c5, f3, f4, lt⟩ := hp
  unfold cutLeft pieced
  by_cases hc : wrap64 (l - n) < 0
  · rw [if_pos hc]
    go_enter Trym.func34, Trym.ntmps34
    go_wp2
    go_end0
    go_wp2
    go_end0
    exact ⟨rfl, rfl⟩
  · rw [if_neg hc]
    go_enter Trym.func34, Trym.ntmps34
    go_wp2
    go_end0
    go_wp2
    go_end0
    exact ⟨rfl, rfl⟩

/-- The same, told by what holds of the world behind it. -/
theorem pieceMade_kept (w : World) (b : Nat) (D l m t n l' m' : Int) (hl : cutLeft l n = l') (hm : wrap64 (m + n) = m') (hp : PaceAt w b D l m t) :
    Calls Trym.prog 34 #[.pointer (some ⟨b, 0, none⟩), .int .i64 n] w fun e w' => e = .returned (.tuple #[]) ∧ PaceAt w' b D l' m' t ∧ (∀ k D₂ l₂ m₂ t₂, k ≠ b → PaceAt w k D₂ l₂ m₂ t₂ → PaceAt w' k D₂ l₂ m₂ t₂) ∧ (∀ B, B ≤ b → Below B w w') := by
  subst hl hm
  refine (pieceMade_any w b D l m t n hp).mono ?_
  rintro e w' ⟨rfl, rfl⟩
  exact ⟨rfl, hp.pieced _ _, fun k D₂ l₂ m₂ t₂ hk h => h.other hk _ _, fun B hB => below_pieced (Below.refl _ _) hB _ _⟩
end Go.Proofs.Qxb6603509aMods
