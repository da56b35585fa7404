/-
  THE CLONE FUNCTIONS over slices of one-cell elements, and the readers zz..At. What is told of a slice: 'SlIn' (Qxb6603509aModsCloneInts).
-/
import Derived.Test.Qxb6603509aModsCloneInts
namespace Go.Proofs.Qxb6603509aMods
open Go.RowKit

theorem SlIn.pos {w : World} {a : Option Addr} {n cap : Nat} {f : Nat → Value} (h : SlIn w a n cap f) {k : Nat} (hk : k < n) : ∃ b off, a = some ⟨b, off, none⟩ ∧ b < w.heap.size ∧ ∀ i, i < n → w.cell? ⟨b, off + i, none⟩ = some (f i) := by
  rcases h with ⟨_, h, _⟩ | ⟨x, _, h⟩ | h
  · omega
  · omega
  · exact h
theorem SlIn.of_row {w : World} {b : Nat} {e : TypeId} {n : Nat} {f : Nat → Value} (h : w.rowIs b e n f) : SlIn w (some ⟨b, 0, none⟩) n n f :=
  .inr (.inr ⟨b, 0, rfl, h.lt, fun i hi => by rw [Nat.zero_add]; exact h.cell hi⟩)
theorem SlIn.nil (w : World) (f : Nat → Value) : SlIn w none 0 0 f := .inl ⟨rfl, rfl, rfl⟩

theorem info2 : (Trym.prog.info? 2).map (fun i => (i.zero, i.size, i.bytes)) = some (some (.int .i64 0), 1, 8) := by kernel_rfl

set_option maxHeartbeats 1000000 in
theorem cloneInt64s_row (b off n cap : Nat) (z : Nat → Int) (hn : n ≤ 1048576) (w : World) (hb : b < w.heap.size) (hc : ∀ i, i < n → w.cell? ⟨b, off + i, none⟩ = some (.int .i64 (z i))) :
    Calls Trym.prog 11 #[.slice (some ⟨b, off, none⟩) n cap] w fun e w' => e = .returned (.slice (some ⟨w.heap.size, 0, none⟩) n n) ∧ w'.rowIs w.heap.size 2 n (fun i => .int .i64 (z i)) ∧ Below w.heap.size w w' ∧ w'.heap.size = w.heap.size + 1 := by
  have hnil := fun w => Lib.run_eql_slice_nil (P := Trym.prog) w 22 2 (some ⟨b, off, none⟩) n cap 0 0 Trym.underlying22
  have hmk := run_make_row' (P := Trym.prog) 22 2 (.int .i64 0) 8 Trym.underlying22 info2 rfl .i64 .i64 n (by omega) (by omega)
  go_enter Trym.func11, Trym.ntmps11
  go_wp2
  go_loopw [4] (fun i wr => ∃ k : Nat, k ≤ n ∧ i = .int .i64 k ∧ wr.rowIs w.heap.size 2 n (part k (fun i => .int .i64 (z i)) (.int .i64 0)) ∧ Below w.heap.size w wr ∧ wr.heap.size = w.heap.size + 1) (fun i _ => n - (intOf i).toNat)
  case atStart =>
    exact ⟨0, Nat.zero_le _, rfl, part_none _ (World.rowIs_made w _ n 2), (Below.refl _ _).alloc (Nat.le_refl _) _, by simp⟩
  case round =>
    obtain ⟨k, hk, rfl, hrow, hbel, hsz⟩ := hrel
    by_cases hlt : k < n
    · have hck : wr.cell? ⟨b, off + k, none⟩ = some (.int .i64 (z k)) := (hbel.cell (p := ⟨b, off + k, none⟩) hb).trans (hc k hlt)
      have hold := hrow.cell hlt
      have hfz := hrow.frozen k
      have hset := part_set (f := fun i => .int .i64 (z i)) hrow
      have hbel2 := hbel.setCell (p := ⟨w.heap.size, k, none⟩) (Nat.le_refl _) (.int .i64 (z k))
      have HR : Hid (World.rowIs (wr.setCell ⟨w.heap.size, k, none⟩ (.int .i64 (z k))) w.heap.size 2 n (part (k + 1) (fun i => .int .i64 (z i)) (.int .i64 0))) := hset
      clear hset hrow hc hmk hnil
      go_wp2
      go_roundw
      case rel => exact ⟨k + 1, by omega, by go_num, HR.out, hbel2, by simpa using hsz⟩
      case measure => simp [intOf]; omega
    · go_wp2
      go_ret
      have : k = n := by omega
      subst this
      exact ⟨rfl, part_all hrow, hbel, hsz⟩

set_option maxHeartbeats 1000000 in
theorem cloneInt64s_nil (w : World) : Calls Trym.prog 11 #[.slice none 0 0] w fun e w' => e = .returned (.slice none 0 0) ∧ w' = w := by
  have hnil := fun w => Lib.run_eql_slice_nil (P := Trym.prog) w 22 2 none 0 0 0 0 Trym.underlying22
  go_enter Trym.func11, Trym.ntmps11
  go_wp2
  go_ret
  exact ⟨rfl, rfl⟩
set_option maxHeartbeats 1000000 in
theorem cloneInt64s_empty (x : Addr) (cap : Nat) (w : World) :
    Calls Trym.prog 11 #[.slice (some x) 0 cap] w fun e w' => e = .returned (.slice (some ⟨w.heap.size, 0, none⟩) 0 0) ∧ Below w.heap.size w w' := by
  have hnil := fun w => Lib.run_eql_slice_nil (P := Trym.prog) w 22 2 (some x) 0 cap 0 0 Trym.underlying22
  have hmk : ∀ w, (Instr.makeSlice 22 (.int .i64 0) (.int .i64 0)).run Trym.prog w = .ok (.slice (some ⟨w.heap.size, 0, none⟩) 0 0) (w.alloc (.cells (madeCells #[.int .i64 0] 0) 2)) := fun w => run_make_row' (P := Trym.prog) 22 2 (.int .i64 0) 8 Trym.underlying22 info2 rfl .i64 .i64 0 (by omega) (by omega) w
  go_enter Trym.func11, Trym.ntmps11
  go_wp2
  go_loopw [4] (fun i wr => i = .int .i64 0 ∧ Below w.heap.size w wr) (fun _ _ => 0)
  case atStart => exact ⟨rfl, (Below.refl _ _).alloc (Nat.le_refl _) _⟩
  case round =>
    obtain ⟨rfl, hbel⟩ := hrel
    go_wp2
    go_ret
    exact ⟨rfl, hbel⟩

/-- THE CONTRACT OF function 11. -/
theorem cloneInt64s_any (a : Option Addr) (n cap : Nat) (z : Nat → Int) (hn : n ≤ 1048576) (w : World) (h : SlIn w a n cap (fun i => .int .i64 (z i))) :
    Calls Trym.prog 11 #[.slice a n cap] w fun e w' => ∃ a' cap', e = .returned (.slice a' n cap') ∧ SlIn w' a' n cap' (fun i => .int .i64 (z i)) ∧ Below w.heap.size w w' := by
  rcases h with ⟨rfl, rfl, rfl⟩ | ⟨x, rfl, rfl⟩ | ⟨b, off, rfl, hb, hc⟩
  · refine (cloneInt64s_nil w).mono ?_
    rintro e w' ⟨rfl, rfl⟩
    exact ⟨_, _, rfl, SlIn.nil _ _, Below.refl _ _⟩
  · refine (cloneInt64s_empty x cap w).mono ?_
    rintro e w' ⟨rfl, hb⟩
    exact ⟨_, _, rfl, .inr (.inl ⟨_, rfl, rfl⟩), hb⟩
  · refine (cloneInt64s_row b off n cap z hn w hb hc).mono ?_
    rintro e w' ⟨rfl, hr, hb, -⟩
    exact ⟨_, _, rfl, SlIn.of_row hr, hb⟩

theorem info9 : (Trym.prog.info? 9).map (fun i => (i.zero, i.size, i.bytes)) = some (some (.string ByteArray.empty), 1, 16) := by kernel_rfl

set_option maxHeartbeats 1000000 in
theorem cloneStrings_row (b off n cap : Nat) (z : Nat → ByteArray) (hn : n ≤ 1048576) (w : World) (hb : b < w.heap.size) (hc : ∀ i, i < n → w.cell? ⟨b, off + i, none⟩ = some (.string (z i))) :
    Calls Trym.prog 13 #[.slice (some ⟨b, off, none⟩) n cap] w fun e w' => e = .returned (.slice (some ⟨w.heap.size, 0, none⟩) n n) ∧ w'.rowIs w.heap.size 9 n (fun i => .string (z i)) ∧ Below w.heap.size w w' ∧ w'.heap.size = w.heap.size + 1 := by
  have hnil := fun w => Lib.run_eql_slice_nil (P := Trym.prog) w 24 9 (some ⟨b, off, none⟩) n cap 0 0 Trym.underlying24
  have hmk := run_make_row' (P := Trym.prog) 24 9 (.string ByteArray.empty) 16 Trym.underlying24 info9 rfl .i64 .i64 n (by omega) (by omega)
  go_enter Trym.func13, Trym.ntmps13
  go_wp2
  go_loopw [4] (fun i wr => ∃ k : Nat, k ≤ n ∧ i = .int .i64 k ∧ wr.rowIs w.heap.size 9 n (part k (fun i => .string (z i)) (.string ByteArray.empty)) ∧ Below w.heap.size w wr ∧ wr.heap.size = w.heap.size + 1) (fun i _ => n - (intOf i).toNat)
  case atStart =>
    exact ⟨0, Nat.zero_le _, rfl, part_none _ (World.rowIs_made w _ n 9), (Below.refl _ _).alloc (Nat.le_refl _) _, by simp⟩
  case round =>
    obtain ⟨k, hk, rfl, hrow, hbel, hsz⟩ := hrel
    by_cases hlt : k < n
    · have hck : wr.cell? ⟨b, off + k, none⟩ = some (.string (z k)) := (hbel.cell (p := ⟨b, off + k, none⟩) hb).trans (hc k hlt)
      have hold := hrow.cell hlt
      have hfz := hrow.frozen k
      have hset := part_set (f := fun i => .string (z i)) hrow
      have hbel2 := hbel.setCell (p := ⟨w.heap.size, k, none⟩) (Nat.le_refl _) (.string (z k))
      have HR : Hid (World.rowIs (wr.setCell ⟨w.heap.size, k, none⟩ (.string (z k))) w.heap.size 9 n (part (k + 1) (fun i => .string (z i)) (.string ByteArray.empty))) := hset
      clear hset hrow hc hmk hnil
      go_wp2
      go_roundw
      case rel => exact ⟨k + 1, by omega, by go_num, HR.out, hbel2, by simpa using hsz⟩
      case measure => simp [intOf]; omega
    · go_wp2
      go_ret
      have : k = n := by omega
      subst this
      exact ⟨rfl, part_all hrow, hbel, hsz⟩

set_option maxHeartbeats 1000000 in
theorem cloneStrings_nil (w : World) : Calls Trym.prog 13 #[.slice none 0 0] w fun e w' => e = .returned (.slice none 0 0) ∧ w' = w := by
  have hnil := fun w => Lib.run_eql_slice_nil (P := Trym.prog) w 24 9 none 0 0 0 0 Trym.underlying24
  go_enter Trym.func13, Trym.ntmps13
  go_wp2
  go_ret
  exact ⟨rfl, rfl⟩
set_option maxHeartbeats 1000000 in
theorem cloneStrings_empty (x : Addr) (cap : Nat) (w : World) :
    Calls Trym.prog 13 #[.slice (some x) 0 cap] w fun e w' => e = .returned (.slice (some ⟨w.heap.size, 0, none⟩) 0 0) ∧ Below w.heap.size w w' := by
  have hnil := fun w => Lib.run_eql_slice_nil (P := Trym.prog) w 24 9 (some x) 0 cap 0 0 Trym.underlying24
  have hmk : ∀ w, (Instr.makeSlice 24 (.int .i64 0) (.int .i64 0)).run Trym.prog w = .ok (.slice (some ⟨w.heap.size, 0, none⟩) 0 0) (w.alloc (.cells (madeCells #[.string ByteArray.empty] 0) 9)) := fun w => run_make_row' (P := Trym.prog) 24 9 (.string ByteArray.empty) 16 Trym.underlying24 info9 rfl .i64 .i64 0 (by omega) (by omega) w
  go_enter Trym.func13, Trym.ntmps13
  go_wp2
  go_loopw [4] (fun i wr => i = .int .i64 0 ∧ Below w.heap.size w wr) (fun _ _ => 0)
  case atStart => exact ⟨rfl, (Below.refl _ _).alloc (Nat.le_refl _) _⟩
  case round =>
    obtain ⟨rfl, hbel⟩ := hrel
    go_wp2
    go_ret
    exact ⟨rfl, hbel⟩

/-- THE CONTRACT OF function 13. -/
theorem cloneStrings_any (a : Option Addr) (n cap : Nat) (z : Nat → ByteArray) (hn : n ≤ 1048576) (w : World) (h : SlIn w a n cap (fun i => .string (z i))) :
    Calls Trym.prog 13 #[.slice a n cap] w fun e w' => ∃ a' cap', e = .returned (.slice a' n cap') ∧ SlIn w' a' n cap' (fun i => .string (z i)) ∧ Below w.heap.size w w' := by
  rcases h with ⟨rfl, rfl, rfl⟩ | ⟨x, rfl, rfl⟩ | ⟨b, off, rfl, hb, hc⟩
  · refine (cloneStrings_nil w).mono ?_
    rintro e w' ⟨rfl, rfl⟩
    exact ⟨_, _, rfl, SlIn.nil _ _, Below.refl _ _⟩
  · refine (cloneStrings_empty x cap w).mono ?_
    rintro e w' ⟨rfl, hb⟩
    exact ⟨_, _, rfl, .inr (.inl ⟨_, rfl, rfl⟩), hb⟩
  · refine (cloneStrings_row b off n cap z hn w hb hc).mono ?_
    rintro e w' ⟨rfl, hr, hb, -⟩
    exact ⟨_, _, rfl, SlIn.of_row hr, hb⟩

theorem info4 : (Trym.prog.info? 4).map (fun i => (i.zero, i.size, i.bytes)) = some (some (.bool false), 1, 1) := by kernel_rfl

set_option maxHeartbeats 1000000 in
theorem cloneBools_row (b off n cap : Nat) (z : Nat → Bool) (hn : n ≤ 1048576) (w : World) (hb : b < w.heap.size) (hc : ∀ i, i < n → w.cell? ⟨b, off + i, none⟩ = some (.bool (z i))) :
    Calls Trym.prog 14 #[.slice (some ⟨b, off, none⟩) n cap] w fun e w' => e = .returned (.slice (some ⟨w.heap.size, 0, none⟩) n n) ∧ w'.rowIs w.heap.size 4 n (fun i => .bool (z i)) ∧ Below w.heap.size w w' ∧ w'.heap.size = w.heap.size + 1 := by
  have hnil := fun w => Lib.run_eql_slice_nil (P := Trym.prog) w 25 4 (some ⟨b, off, none⟩) n cap 0 0 Trym.underlying25
  have hmk := run_make_row' (P := Trym.prog) 25 4 (.bool false) 1 Trym.underlying25 info4 rfl .i64 .i64 n (by omega) (by omega)
  go_enter Trym.func14, Trym.ntmps14
  go_wp2
  go_loopw [4] (fun i wr => ∃ k : Nat, k ≤ n ∧ i = .int .i64 k ∧ wr.rowIs w.heap.size 4 n (part k (fun i => .bool (z i)) (.bool false)) ∧ Below w.heap.size w wr ∧ wr.heap.size = w.heap.size + 1) (fun i _ => n - (intOf i).toNat)
  case atStart =>
    exact ⟨0, Nat.zero_le _, rfl, part_none _ (World.rowIs_made w _ n 4), (Below.refl _ _).alloc (Nat.le_refl _) _, by simp⟩
  case round =>
    obtain ⟨k, hk, rfl, hrow, hbel, hsz⟩ := hrel
    by_cases hlt : k < n
    · have hck : wr.cell? ⟨b, off + k, none⟩ = some (.bool (z k)) := (hbel.cell (p := ⟨b, off + k, none⟩) hb).trans (hc k hlt)
      have hold := hrow.cell hlt
      have hfz := hrow.frozen k
      have hset := part_set (f := fun i => .bool (z i)) hrow
      have hbel2 := hbel.setCell (p := ⟨w.heap.size, k, none⟩) (Nat.le_refl _) (.bool (z k))
      have HR : Hid (World.rowIs (wr.setCell ⟨w.heap.size, k, none⟩ (.bool (z k))) w.heap.size 4 n (part (k + 1) (fun i => .bool (z i)) (.bool false))) := hset
      clear hset hrow hc hmk hnil
      go_wp2
      go_roundw
      case rel => exact ⟨k + 1, by omega, by go_num, HR.out, hbel2, by simpa using hsz⟩
      case measure => simp [intOf]; omega
    · go_wp2
      go_ret
      have : k = n := by omega
      subst this
      exact ⟨rfl, part_all hrow, hbel, hsz⟩

set_option maxHeartbeats 1000000 in
theorem cloneBools_nil (w : World) : Calls Trym.prog 14 #[.slice none 0 0] w fun e w' => e = .returned (.slice none 0 0) ∧ w' = w := by
  have hnil := fun w => Lib.run_eql_slice_nil (P := Trym.prog) w 25 4 none 0 0 0 0 Trym.underlying25
  go_enter Trym.func14, Trym.ntmps14
  go_wp2
  go_ret
  exact ⟨rfl, rfl⟩
set_option maxHeartbeats 1000000 in
theorem cloneBools_empty (x : Addr) (cap : Nat) (w : World) :
    Calls Trym.prog 14 #[.slice (some x) 0 cap] w fun e w' => e = .returned (.slice (some ⟨w.heap.size, 0, none⟩) 0 0) ∧ Below w.heap.size w w' := by
  have hnil := fun w => Lib.run_eql_slice_nil (P := Trym.prog) w 25 4 (some x) 0 cap 0 0 Trym.underlying25
  have hmk : ∀ w, (Instr.makeSlice 25 (.int .i64 0) (.int .i64 0)).run Trym.prog w = .ok (.slice (some ⟨w.heap.size, 0, none⟩) 0 0) (w.alloc (.cells (madeCells #[.bool false] 0) 4)) := fun w => run_make_row' (P := Trym.prog) 25 4 (.bool false) 1 Trym.underlying25 info4 rfl .i64 .i64 0 (by omega) (by omega) w
  go_enter Trym.func14, Trym.ntmps14
  go_wp2
  go_loopw [4] (fun i wr => i = .int .i64 0 ∧ Below w.heap.size w wr) (fun _ _ => 0)
  case atStart => exact ⟨rfl, (Below.refl _ _).alloc (Nat.le_refl _) _⟩
  case round =>
    obtain ⟨rfl, hbel⟩ := hrel
    go_wp2
    go_ret
    exact ⟨rfl, hbel⟩

/-- THE CONTRACT OF function 14. -/
theorem cloneBools_any (a : Option Addr) (n cap : Nat) (z : Nat → Bool) (hn : n ≤ 1048576) (w : World) (h : SlIn w a n cap (fun i => .bool (z i))) :
    Calls Trym.prog 14 #[.slice a n cap] w fun e w' => ∃ a' cap', e = .returned (.slice a' n cap') ∧ SlIn w' a' n cap' (fun i => .bool (z i)) ∧ Below w.heap.size w w' := by
  rcases h with ⟨rfl, rfl, rfl⟩ | ⟨x, rfl, rfl⟩ | ⟨b, off, rfl, hb, hc⟩
  · refine (cloneBools_nil w).mono ?_
    rintro e w' ⟨rfl, rfl⟩
    exact ⟨_, _, rfl, SlIn.nil _ _, Below.refl _ _⟩
  · refine (cloneBools_empty x cap w).mono ?_
    rintro e w' ⟨rfl, hb⟩
    exact ⟨_, _, rfl, .inr (.inl ⟨_, rfl, rfl⟩), hb⟩
  · refine (cloneBools_row b off n cap z hn w hb hc).mono ?_
    rintro e w' ⟨rfl, hr, hb, -⟩
    exact ⟨_, _, rfl, SlIn.of_row hr, hb⟩

theorem info5 : (Trym.prog.info? 5).map (fun i => (i.zero, i.size, i.bytes)) = some (some (.int .u8 0), 1, 1) := by kernel_rfl

set_option maxHeartbeats 1000000 in
theorem cloneBytes_row (b off n cap : Nat) (z : Nat → Int) (hn : n ≤ 1048576) (w : World) (hb : b < w.heap.size) (hc : ∀ i, i < n → w.cell? ⟨b, off + i, none⟩ = some (.int .u8 (z i))) :
    Calls Trym.prog 26 #[.slice (some ⟨b, off, none⟩) n cap] w fun e w' => e = .returned (.slice (some ⟨w.heap.size, 0, none⟩) n n) ∧ w'.rowIs w.heap.size 5 n (fun i => .int .u8 (z i)) ∧ Below w.heap.size w w' ∧ w'.heap.size = w.heap.size + 1 := by
  have hnil := fun w => Lib.run_eql_slice_nil (P := Trym.prog) w 40 5 (some ⟨b, off, none⟩) n cap 0 0 Trym.underlying40
  have hmk := run_make_row' (P := Trym.prog) 40 5 (.int .u8 0) 1 Trym.underlying40 info5 rfl .i64 .i64 n (by omega) (by omega)
  go_enter Trym.func26, Trym.ntmps26
  go_wp2
  go_loopw [4] (fun i wr => ∃ k : Nat, k ≤ n ∧ i = .int .i64 k ∧ wr.rowIs w.heap.size 5 n (part k (fun i => .int .u8 (z i)) (.int .u8 0)) ∧ Below w.heap.size w wr ∧ wr.heap.size = w.heap.size + 1) (fun i _ => n - (intOf i).toNat)
  case atStart =>
    exact ⟨0, Nat.zero_le _, rfl, part_none _ (World.rowIs_made w _ n 5), (Below.refl _ _).alloc (Nat.le_refl _) _, by simp⟩
  case round =>
    obtain ⟨k, hk, rfl, hrow, hbel, hsz⟩ := hrel
    by_cases hlt : k < n
    · have hck : wr.cell? ⟨b, off + k, none⟩ = some (.int .u8 (z k)) := (hbel.cell (p := ⟨b, off + k, none⟩) hb).trans (hc k hlt)
      have hold := hrow.cell hlt
      have hfz := hrow.frozen k
      have hset := part_set (f := fun i => .int .u8 (z i)) hrow
      have hbel2 := hbel.setCell (p := ⟨w.heap.size, k, none⟩) (Nat.le_refl _) (.int .u8 (z k))
      have HR : Hid (World.rowIs (wr.setCell ⟨w.heap.size, k, none⟩ (.int .u8 (z k))) w.heap.size 5 n (part (k + 1) (fun i => .int .u8 (z i)) (.int .u8 0))) := hset
      clear hset hrow hc hmk hnil
      go_wp2
      go_roundw
      case rel => exact ⟨k + 1, by omega, by go_num, HR.out, hbel2, by simpa using hsz⟩
      case measure => simp [intOf]; omega
    · go_wp2
      go_ret
      have : k = n := by omega
      subst this
      exact ⟨rfl, part_all hrow, hbel, hsz⟩

set_option maxHeartbeats 1000000 in
theorem cloneBytes_nil (w : World) : Calls Trym.prog 26 #[.slice none 0 0] w fun e w' => e = .returned (.slice none 0 0) ∧ w' = w := by
  have hnil := fun w => Lib.run_eql_slice_nil (P := Trym.prog) w 40 5 none 0 0 0 0 Trym.underlying40
  go_enter Trym.func26, Trym.ntmps26
  go_wp2
  go_ret
  exact ⟨rfl, rfl⟩
set_option maxHeartbeats 1000000 in
theorem cloneBytes_empty (x : Addr) (cap : Nat) (w : World) :
    Calls Trym.prog 26 #[.slice (some x) 0 cap] w fun e w' => e = .returned (.slice (some ⟨w.heap.size, 0, none⟩) 0 0) ∧ Below w.heap.size w w' := by
  have hnil := fun w => Lib.run_eql_slice_nil (P := Trym.prog) w 40 5 (some x) 0 cap 0 0 Trym.underlying40
  have hmk : ∀ w, (Instr.makeSlice 40 (.int .i64 0) (.int .i64 0)).run Trym.prog w = .ok (.slice (some ⟨w.heap.size, 0, none⟩) 0 0) (w.alloc (.cells (madeCells #[.int .u8 0] 0) 5)) := fun w => run_make_row' (P := Trym.prog) 40 5 (.int .u8 0) 1 Trym.underlying40 info5 rfl .i64 .i64 0 (by omega) (by omega) w
  go_enter Trym.func26, Trym.ntmps26
  go_wp2
  go_loopw [4] (fun i wr => i = .int .i64 0 ∧ Below w.heap.size w wr) (fun _ _ => 0)
  case atStart => exact ⟨rfl, (Below.refl _ _).alloc (Nat.le_refl _) _⟩
  case round =>
    obtain ⟨rfl, hbel⟩ := hrel
    go_wp2
    go_ret
    exact ⟨rfl, hbel⟩

/-- THE CONTRACT OF function 26. -/
theorem cloneBytes_any (a : Option Addr) (n cap : Nat) (z : Nat → Int) (hn : n ≤ 1048576) (w : World) (h : SlIn w a n cap (fun i => .int .u8 (z i))) :
    Calls Trym.prog 26 #[.slice a n cap] w fun e w' => ∃ a' cap', e = .returned (.slice a' n cap') ∧ SlIn w' a' n cap' (fun i => .int .u8 (z i)) ∧ Below w.heap.size w w' := by
  rcases h with ⟨rfl, rfl, rfl⟩ | ⟨x, rfl, rfl⟩ | ⟨b, off, rfl, hb, hc⟩
  · refine (cloneBytes_nil w).mono ?_
    rintro e w' ⟨rfl, rfl⟩
    exact ⟨_, _, rfl, SlIn.nil _ _, Below.refl _ _⟩
  · refine (cloneBytes_empty x cap w).mono ?_
    rintro e w' ⟨rfl, hb⟩
    exact ⟨_, _, rfl, .inr (.inl ⟨_, rfl, rfl⟩), hb⟩
  · refine (cloneBytes_row b off n cap z hn w hb hc).mono ?_
    rintro e w' ⟨rfl, hr, hb, -⟩
    exact ⟨_, _, rfl, SlIn.of_row hr, hb⟩

end Go.Proofs.Qxb6603509aMods
