import Derived.Test.Qxb6603509aModsRows
import Derived.WalkKit
import Derived.WalkSpells
import Derived.WalkLawsBesides
import Derived.Deep.OwnRows
namespace Go.Proofs.Qxb6603509aMods
open Go.RowKit

theorem info3 : (Trym.prog.info? 3).map (fun i => (i.zero, i.size, i.bytes)) = some (some (.int .i64 0), 1, 8) := by kernel_rfl

/-- The copied part of a row, then zeros. -/
def part (k : Nat) (f : Nat → Value) (z : Value) (j : Nat) : Value := if j < k then f j else z

theorem part_set {w : World} {b : Nat} {t : TypeId} {n k : Nat} {f : Nat → Value} {z : Value} (h : w.rowIs b t n (part k f z)) : (w.setCell ⟨b, k, none⟩ (f k)).rowIs b t n (part (k + 1) f z) := by
  refine (h.set k (f k)).congr fun j _ => ?_
  unfold part
  by_cases e : j = k
  · subst e; simp
  · rw [if_neg e]
    by_cases l : j < k
    · rw [if_pos l, if_pos (by omega)]
    · rw [if_neg l, if_neg (by omega)]
theorem part_all {w : World} {b : Nat} {t : TypeId} {n : Nat} {f : Nat → Value} {z : Value} (h : w.rowIs b t n (part n f z)) : w.rowIs b t n f :=
  h.congr fun j hj => by unfold part; rw [if_pos hj]
theorem part_none {w : World} {b : Nat} {t : TypeId} {n : Nat} {z : Value} (f : Nat → Value) (h : w.rowIs b t n (fun _ => z)) : w.rowIs b t n (part 0 f z) :=
  h.congr fun j _ => by unfold part; rw [if_neg (by omega)]

set_option maxHeartbeats 1000000 in
/-- zzCloneIntsB1, a slice that is not nil, at least one element. -/
theorem cloneInts_row (b off n cap : Nat) (z : Nat → Int) (hn : n ≤ 1048576) (w : World) (hb : b < w.heap.size) (hc : ∀ i, i < n → w.cell? ⟨b, off + i, none⟩ = some (.int .i64 (z i))) :
    Calls Trym.prog 32 #[.slice (some ⟨b, off, none⟩) n cap] w fun e w' => e = .returned (.slice (some ⟨w.heap.size, 0, none⟩) n n) ∧ w'.rowIs w.heap.size 3 n (fun i => .int .i64 (z i)) ∧ Below w.heap.size w w' ∧ w'.heap.size = w.heap.size + 1 := by
  have hnil := fun w => Lib.run_eql_slice_nil (P := Trym.prog) w 50 3 (some ⟨b, off, none⟩) n cap 0 0 Trym.underlying50
  have hmk := run_make_row' (P := Trym.prog) 50 3 (.int .i64 0) 8 Trym.underlying50 info3 rfl .i64 .i64 n (by omega) (by omega)
  go_enter Trym.func32, Trym.ntmps32
  go_wp2
  go_loopw [4] (fun i wr => ∃ k : Nat, k ≤ n ∧ i = .int .i64 k ∧ wr.rowIs w.heap.size 3 n (part k (fun i => .int .i64 (z i)) (.int .i64 0)) ∧ Below w.heap.size w wr ∧ wr.heap.size = w.heap.size + 1) (fun i _ => n - (intOf i).toNat)
  case atStart =>
    exact ⟨0, Nat.zero_le _, rfl, part_none _ (World.rowIs_made w _ n 3), (Below.refl _ _).alloc (Nat.le_refl _) _, by simp⟩
  case round =>
    obtain ⟨k, hk, rfl, hrow, hbel, hsz⟩ := hrel
    by_cases hlt : k < n
    · have hck : wr.cell? ⟨b, off + k, none⟩ = some (.int .i64 (z k)) := (hbel.cell (p := ⟨b, off + k, none⟩) hb).trans (hc k hlt)
      have hold := hrow.cell hlt
      have hfz := hrow.frozen k
      have hset := part_set (f := fun i => .int .i64 (z i)) hrow
      have hbel2 := hbel.setCell (p := ⟨w.heap.size, k, none⟩) (Nat.le_refl _) (.int .i64 (z k))
      have HR : Hid (World.rowIs (wr.setCell ⟨w.heap.size, k, none⟩ (.int .i64 (z k))) w.heap.size 3 n (part (k + 1) (fun i => .int .i64 (z i)) (.int .i64 0))) := hset
      clear hset hrow hc hmk hnil
      go_wp2
      go_roundw
      case rel => exact ⟨k + 1, by omega, by go_num, HR.out, hbel2, by simpa using hsz⟩
      case measure => simp [intOf]; omega
    · go_wp2
      go_ret
      have : k = n := by omega
      subst this
      exact ⟨rfl, part_all hrow, hbel, hsz⟩

set_option maxHeartbeats 1000000 in
/-- .. nil. -/
theorem cloneInts_nil (w : World) : Calls Trym.prog 32 #[.slice none 0 0] w fun e w' => e = .returned (.slice none 0 0) ∧ w' = w := by
  have hnil := fun w => Lib.run_eql_slice_nil (P := Trym.prog) w 50 3 none 0 0 0 0 Trym.underlying50
  go_enter Trym.func32, Trym.ntmps32
  go_wp2
  go_ret
  exact ⟨rfl, rfl⟩
set_option maxHeartbeats 1000000 in
/-- .. empty, not nil. -/
theorem cloneInts_empty (x : Addr) (cap : Nat) (w : World) :
    Calls Trym.prog 32 #[.slice (some x) 0 cap] w fun e w' => e = .returned (.slice (some ⟨w.heap.size, 0, none⟩) 0 0) ∧ w'.rowIs w.heap.size 3 0 (fun _ => .int .i64 0) ∧ Below w.heap.size w w' ∧ w'.heap.size = w.heap.size + 1 := by
  have hnil := fun w => Lib.run_eql_slice_nil (P := Trym.prog) w 50 3 (some x) 0 cap 0 0 Trym.underlying50
  have hmk : ∀ w, (Instr.makeSlice 50 (.int .i64 0) (.int .i64 0)).run Trym.prog w = .ok (.slice (some ⟨w.heap.size, 0, none⟩) 0 0) (w.alloc (.cells (madeCells #[.int .i64 0] 0) 3)) := fun w => run_make_row' (P := Trym.prog) 50 3 (.int .i64 0) 8 Trym.underlying50 info3 rfl .i64 .i64 0 (by omega) (by omega) w
  go_enter Trym.func32, Trym.ntmps32
  go_wp2
  go_loopw [4] (fun i wr => i = .int .i64 0 ∧ wr.rowIs w.heap.size 3 0 (fun _ => .int .i64 0) ∧ Below w.heap.size w wr ∧ wr.heap.size = w.heap.size + 1) (fun _ _ => 0)
  case atStart =>
    exact ⟨rfl, World.rowIs_made w _ 0 3, (Below.refl _ _).alloc (Nat.le_refl _) _, by simp⟩
  case round =>
    obtain ⟨rfl, hrow, hbel, hsz⟩ := hrel
    go_wp2
    go_ret
    exact ⟨rfl, hrow, hbel, hsz⟩

/-- WHAT IS KNOWN OF A SLICE THAT CAME IN, elements of one cell: nil and empty; or n cells that can be read. -/
def SlIn (w : World) (a : Option Addr) (n cap : Nat) (f : Nat → Value) : Prop :=
  (a = none ∧ n = 0 ∧ cap = 0) ∨ (∃ x, a = some x ∧ n = 0) ∨ ∃ b off, a = some ⟨b, off, none⟩ ∧ b < w.heap.size ∧ ∀ i, i < n → w.cell? ⟨b, off + i, none⟩ = some (f i)

/-- A SLICE OF THE CALL's OWN: nil and empty; or a whole row in a block from 'base' on. -/
def SlOwn (w : World) (base : Nat) (v : Value) (e : TypeId) (n : Nat) (f : Nat → Value) : Prop :=
  (v = .slice none 0 0 ∧ n = 0) ∨ ∃ b, base ≤ b ∧ v = .slice (some ⟨b, 0, none⟩) n n ∧ w.rowIs b e n f

theorem SlIn.below {w w' : World} {a : Option Addr} {n cap : Nat} {f : Nat → Value} (h : SlIn w a n cap f) (hb : Below w.heap.size w w') : SlIn w' a n cap f := by
  rcases h with h | h | ⟨b, off, h1, h2, h3⟩
  · exact .inl h
  · exact .inr (.inl h)
  · exact .inr (.inr ⟨b, off, h1, Nat.lt_of_lt_of_le h2 hb.size, fun i hi => (hb.cell (p := ⟨b, off + i, none⟩) h2).trans (h3 i hi)⟩)

theorem SlOwn.below {w w' : World} {base : Nat} {v : Value} {e : TypeId} {n : Nat} {f : Nat → Value} (h : SlOwn w base v e n f) {B : Nat} (hb : Below B w w') (hB : w.heap.size ≤ B) : SlOwn w' base v e n f := by
  rcases h with h | ⟨b, h1, h2, h3⟩
  · exact .inl h
  · exact .inr ⟨b, h1, h2, h3.of_block (hb.block b (by have := h3.lt; omega))⟩

/-- THE CONTRACT OF zzCloneIntsB1. -/
theorem cloneInts_any (a : Option Addr) (n cap : Nat) (z : Nat → Int) (hn : n ≤ 1048576) (w : World) (h : SlIn w a n cap (fun i => .int .i64 (z i))) :
    Calls Trym.prog 32 #[.slice a n cap] w fun e w' => ∃ v, e = .returned v ∧ SlOwn w' w.heap.size v 3 n (fun i => .int .i64 (z i)) ∧ Below w.heap.size w w' := by
  rcases h with ⟨rfl, rfl, rfl⟩ | ⟨x, rfl, rfl⟩ | ⟨b, off, rfl, hb, hc⟩
  · refine (cloneInts_nil w).mono ?_
    rintro e w' ⟨rfl, rfl⟩
    exact ⟨_, rfl, .inl ⟨rfl, rfl⟩, Below.refl _ _⟩
  · refine (cloneInts_empty x cap w).mono ?_
    rintro e w' ⟨rfl, hr, hb, -⟩
    exact ⟨_, rfl, .inr ⟨_, Nat.le_refl _, rfl, hr.congr fun i hi => absurd hi (by omega)⟩, hb⟩
  · refine (cloneInts_row b off n cap z hn w hb hc).mono ?_
    rintro e w' ⟨rfl, hr, hb, -⟩
    exact ⟨_, rfl, .inr ⟨_, Nat.le_refl _, rfl, hr⟩, hb⟩
end Go.Proofs.Qxb6603509aMods
