/-
  THE BUFFER: a row's size, put, the readers ZZrow, ZZrowCount, ZZbytes, ZZnext, ZZundoLen, ZZinBatch.
-/
import Derived.Test.Qxb6603509aModsMap
import Derived.Test.Qxb6603509aModsClones
import Derived.Deep.RegionHeld3
import Derived.Deep.QuietTactic
import Derived.BigQuiet
namespace Go.Proofs.Qxb6603509aMods
open Go.RowKit

/-- A row lies in block p: its payload and its result have n bytes together. -/
def RowAt (w : World) (p : Nat) (n : Int) : Prop :=
  ∃ a1 n1 c1 a2 n2 c2, w.cell? ⟨p, 4, none⟩ = some (.slice a1 n1 c1) ∧ w.cell? ⟨p, 24, none⟩ = some (.slice a2 n2 c2) ∧ (n1 : Int) + (n2 : Int) = n ∧ n1 ≤ 1048576 ∧ n2 ≤ 1048576

theorem cells_of_cell {w : World} {a : Addr} {v : Value} (h : w.cell? a = some v) : ∃ c t fz, w.heap[a.block]? = some (.cells c t fz) := by
  unfold World.cell? at h
  split at h
  · rename_i c t fz hb; exact ⟨c, t, fz, hb⟩
  · cases h

/-- What is a row of cells, but for block b, is as it was. -/
structure Kept (b : Nat) (w w' : World) : Prop where
  size : w.heap.size ≤ w'.heap.size
  block : ∀ k, k ≠ b → ∀ c t fz, w.heap[k]? = some (.cells c t fz) → w'.heap[k]? = some (.cells c t fz)

theorem Kept.refl (b : Nat) (w : World) : Kept b w w := ⟨Nat.le_refl _, fun _ _ _ _ _ h => h⟩
theorem Kept.trans {b : Nat} {w w' w'' : World} (h : Kept b w w') (k : Kept b w' w'') : Kept b w w'' :=
  ⟨Nat.le_trans h.size k.size, fun i hi c t fz hc => k.block i hi c t fz (h.block i hi c t fz hc)⟩
theorem Kept.cell {b : Nat} {w w' : World} (h : Kept b w w') {a : Addr} {v : Value} (ha : a.block ≠ b) (hc : w.cell? a = some v) : w'.cell? a = some v := by
  obtain ⟨c, t, fz, hb⟩ := cells_of_cell hc
  have := h.block a.block ha c t fz hb
  rw [World.cell?_of_block (w := w) (this.trans hb.symm)]; exact hc
theorem Kept.rowIs {b : Nat} {w w' : World} (h : Kept b w w') {k : Nat} {t : TypeId} {n : Nat} {f : Nat → Value} (hk : k ≠ b) (hr : w.rowIs k t n f) : w'.rowIs k t n f := by
  obtain ⟨c, hb, h1, h2⟩ := hr
  exact ⟨c, h.block k hk c t (0, 0) hb, h1, h2⟩
theorem Kept.of_below {b : Nat} {w w' : World} (h : Below w.heap.size w w') : Kept b w w' :=
  ⟨h.size, fun k _ c t fz hc => by
    have hlt : k < w.heap.size := (Array.getElem?_eq_some_iff.1 hc).1
    rw [h.block k hlt]; exact hc⟩
theorem RowAt.kept {b : Nat} {w w' : World} (h : Kept b w w') {p : Nat} {n : Int} (hp : p ≠ b) (hr : RowAt w p n) : RowAt w' p n := by
  obtain ⟨a1, n1, c1, a2, n2, c2, h1, h2, h3⟩ := hr
  exact ⟨a1, n1, c1, a2, n2, c2, h.cell (a := ⟨p, 4, none⟩) hp h1, h.cell (a := ⟨p, 24, none⟩) hp h2, h3⟩

set_option maxHeartbeats 1000000 in
/-- (*bufferedTask).size -/
theorem size_any (w : World) (p : Nat) (n : Int) (h : RowAt w p n) :
    Calls Trym.prog 56 #[.pointer (some ⟨p, 0, none⟩)] w fun e w' => e = .returned (.int .i64 n) ∧ ∃ nq, w' = w.drewN nq := by
  obtain ⟨a1, n1, c1, a2, n2, c2, h1, h2, rfl, h4, h5⟩ := h
  go_enter Trym.func56, Trym.ntmps56
  go_wp2
  go_quiet (fail)
  go_wp2
  go_ret
  exact ⟨rfl, _, rfl⟩

set_option maxHeartbeats 1000000 in
/-- ZZnewRow -/
theorem newRow_any (a1 a2 : Option Addr) (n1 c1 n2 c2 : Nat) (s : ByteArray) (d : Bool) (h1 : n1 ≤ 1048576) (h2 : n2 ≤ 1048576) (w : World) :
    Calls Trym.prog 29 #[.slice a1 n1 c1, .slice a2 n2 c2, .string s, .bool d] w fun e w' => e = .returned (.pointer (some ⟨w.heap.size, 0, none⟩)) ∧ RowAt w' w.heap.size ((n1 : Int) + (n2 : Int)) ∧ Below w.heap.size w w' := by
  go_enter Trym.func29, Trym.ntmps29
  go_wp2
  go_ret
  refine ⟨rfl, ⟨a1, n1, c1, a2, n2, c2, ?_, ?_, rfl, h1, h2⟩, (Below.refl _ _).alloc (Nat.le_refl _) _⟩ <;> simp [go_sem]

/-- The buffer lies in block b: it holds M (N rows), counts 'by' bytes; sz: what a row's block counts. -/
structure BufAt (w : World) (b : Nat) (M : Int → Option Nat) (N : Nat) (by_ : Int) (sz : Nat → Int) : Prop where
  map : (w.cell? ⟨b, 0, none⟩ = some (.map none) ∧ (∀ s, M s = none) ∧ N = 0) ∨ ∃ bm, w.cell? ⟨b, 0, none⟩ = some (.map (some bm)) ∧ b < bm ∧ MapIs w bm M N
  c1 : w.cell? ⟨b, 1, none⟩ = some (.int .i64 by_)
  c2 : w.cell? ⟨b, 2, none⟩ = some (.int .i64 0)
  c3 : w.cell? ⟨b, 3, none⟩ = some (.slice none 0 0)
  c4 : w.cell? ⟨b, 4, none⟩ = some (.bool false)
  f0 : w.frozen? ⟨b, 0, none⟩ = false
  f1 : w.frozen? ⟨b, 1, none⟩ = false
  rows : ∀ s p, M s = some p → p ≠ b ∧ RowAt w p (sz p)
  lt : b < w.heap.size

theorem BufAt.below {w w' : World} {b : Nat} {M : Int → Option Nat} {N : Nat} {y : Int} {sz : Nat → Int} (h : BufAt w b M N y sz) (hb : Below w.heap.size w w') : BufAt w' b M N y sz := by
  have e := fun o => hb.cell (p := ⟨b, o, none⟩) h.lt
  have f := fun o => hb.frozen (p := ⟨b, o, none⟩) h.lt
  refine ⟨?_, (e 1).trans h.c1, (e 2).trans h.c2, (e 3).trans h.c3, (e 4).trans h.c4, (f 0).trans h.f0, (f 1).trans h.f1, fun s p hs => ?_, Nat.lt_of_lt_of_le h.lt hb.size⟩
  · rcases h.map with ⟨h1, h2⟩ | ⟨bm, h1, h2, h3⟩
    · exact .inl ⟨(e 0).trans h1, h2⟩
    · exact .inr ⟨bm, (e 0).trans h1, h2, h3.of_block (hb.block bm h3.lt)⟩
  · obtain ⟨h1, h2⟩ := h.rows s p hs
    exact ⟨h1, h2.kept (b := b) (Kept.of_below hb) h1⟩

set_option maxHeartbeats 1000000 in
/-- ZZnewBufferedTasks -/
theorem newBuf_any (w : World) (sz : Nat → Int) :
    Calls Trym.prog 15 #[] w fun e w' => e = .returned (.pointer (some ⟨w.heap.size, 0, none⟩)) ∧ BufAt w' w.heap.size (fun _ => none) 0 0 sz ∧ Below w.heap.size w w' ∧ w'.heap.size = w.heap.size + 1 := by
  go_enter Trym.func15, Trym.ntmps15
  go_wp2
  go_ret
  refine ⟨rfl, ⟨.inl ⟨?_, fun _ => rfl, rfl⟩, ?_, ?_, ?_, ?_, ?_, ?_, fun s p h => (by cases h), ?_⟩, (Below.refl _ _).alloc (Nat.le_refl _) _, by simp⟩ <;> simp [go_sem]

section
variable (w : World) (b : Nat) (M : Int → Option Nat) (N : Nat) (y : Int) (sz : Nat → Int)
set_option maxHeartbeats 1000000 in
theorem bytes_any (h : BufAt w b M N y sz) : Calls Trym.prog 21 #[.pointer (some ⟨b, 0, none⟩)] w fun e w' => e = .returned (.int .i64 y) ∧ w' = w := by
  have c1 := h.c1
  go_enter Trym.func21, Trym.ntmps21
  go_wp2
  go_ret
  exact ⟨rfl, rfl⟩
set_option maxHeartbeats 1000000 in
theorem next_any (h : BufAt w b M N y sz) : Calls Trym.prog 22 #[.pointer (some ⟨b, 0, none⟩)] w fun e w' => e = .returned (.int .i64 0) ∧ w' = w := by
  have c2 := h.c2
  go_enter Trym.func22, Trym.ntmps22
  go_wp2
  go_ret
  exact ⟨rfl, rfl⟩
set_option maxHeartbeats 1000000 in
theorem undoLen_any (h : BufAt w b M N y sz) : Calls Trym.prog 23 #[.pointer (some ⟨b, 0, none⟩)] w fun e w' => e = .returned (.int .i64 0) ∧ w' = w := by
  have c3 := h.c3
  go_enter Trym.func23, Trym.ntmps23
  go_wp2
  go_ret
  exact ⟨rfl, rfl⟩
set_option maxHeartbeats 1000000 in
theorem inBatch_any (h : BufAt w b M N y sz) : Calls Trym.prog 24 #[.pointer (some ⟨b, 0, none⟩)] w fun e w' => e = .returned (.bool false) ∧ w' = w := by
  have c4 := h.c4
  go_enter Trym.func24, Trym.ntmps24
  go_wp2
  go_ret
  exact ⟨rfl, rfl⟩
set_option maxHeartbeats 1000000 in
theorem rowCount_any (h : BufAt w b M N y sz) : Calls Trym.prog 20 #[.pointer (some ⟨b, 0, none⟩)] w fun e w' => e = .returned (.int .i64 N) ∧ w' = w := by
  rcases h.map with ⟨c0, -, hN⟩ | ⟨bm, c0, -, hm⟩
  · have hl := fun w => len_nil w 3
    go_enter Trym.func20, Trym.ntmps20
    go_wp2
    go_ret
    exact ⟨by rw [hN]; rfl, rfl⟩
  · have hl := hm.len 3
    go_enter Trym.func20, Trym.ntmps20
    go_wp2
    go_ret
    exact ⟨rfl, rfl⟩
set_option maxHeartbeats 1000000 in
theorem row_any (h : BufAt w b M N y sz) (s : Int) : Calls Trym.prog 18 #[.pointer (some ⟨b, 0, none⟩), .int .i64 s] w fun e w' => e = .returned (.tuple #[ptrOf (M s), .bool (M s).isSome]) ∧ w' = w := by
  rcases h.map with ⟨c0, hM, -⟩ | ⟨bm, c0, -, hm⟩
  · have hl := fun w => look_nil w s
    rw [hM s]
    show Calls Trym.prog 18 #[.pointer (some ⟨b, 0, none⟩), .int .i64 s] w fun e w' => e = .returned (.tuple #[.pointer none, .bool false]) ∧ w' = w
    go_enter Trym.func18, Trym.ntmps18
    go_wp2
    go_ret2
    exact ⟨rfl, rfl⟩
  · have hl := hm.look s
    go_enter Trym.func18, Trym.ntmps18
    go_wp2
    go_ret2
    exact ⟨rfl, rfl⟩
end
end Go.Proofs.Qxb6603509aMods
