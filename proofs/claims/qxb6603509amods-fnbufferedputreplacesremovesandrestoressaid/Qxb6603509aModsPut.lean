/-
  (*bufferedTasks).put, and ZZput.
-/
import Derived.Test.Qxb6603509aModsBuf
namespace Go.Proofs.Qxb6603509aMods
open Go.RowKit

/-- What one seq's row counts. -/
def osz (sz : Nat → Int) : Option Nat → Int
  | none => 0
  | some p => sz p
/-- The number of rows behind a put. -/
def cntP (old new : Option Nat) (N : Nat) : Nat := match old, new with
  | none, none => N
  | none, some _ => N + 1
  | some _, none => N - 1
  | some _, some _ => N

/-- size, told of a world that is as it was. -/
theorem size_still (w : World) (p : Nat) (n : Int) (h : RowAt w p n) :
    Calls Trym.prog 56 #[.pointer (some ⟨p, 0, none⟩)] w fun e w' => e = .returned (.int .i64 n) ∧ (∀ a, w'.cell? a = w.cell? a) ∧ (∀ a, w'.frozen? a = w.frozen? a) ∧ w'.heap = w.heap ∧ Below w.heap.size w w' := by
  refine (size_any w p n h).mono ?_
  rintro e w' ⟨rfl, nq, rfl⟩
  exact ⟨rfl, fun _ => rfl, fun _ => rfl, rfl, ⟨rfl, rfl, rfl, Nat.le_refl _, fun _ _ => rfl⟩⟩

theorem Kept.putMap {b bm N : Nat} {w : World} {M : Int → Option Nat} (hm : MapIs w bm M N) (o : Obj) : Kept b w (Go.Proofs.Qxb6603509aMods.putMap w bm o) :=
  ⟨by simp [Go.Proofs.Qxb6603509aMods.putMap], fun k _ c t fz hc => (putMap_other w bm o k (hm.ne_cells hc)).trans hc⟩
theorem Kept.setCell (b off : Nat) (w : World) (v : Value) : Kept b w (w.setCell ⟨b, off, none⟩ v) :=
  ⟨by simp [World.setCell], fun k hk c t fz hc => (Below.heap_setCell w ⟨b, off, none⟩ v k hk).trans hc⟩
theorem Kept.heap {b : Nat} {w w' : World} (h : w'.heap = w.heap) : Kept b w w' := ⟨by rw [h]; exact Nat.le_refl _, fun k _ c t fz hc => by rw [h]; exact hc⟩
theorem below_setB {b off : Nat} {w : World} {v : Value} : Below b w (w.setCell ⟨b, off, none⟩ v) := (Below.refl b w).setCell (p := ⟨b, off, none⟩) (Nat.le_refl b) v

/-- The buffer behind a change of its map's entries. -/
theorem BufAt.mapped {w : World} {b bm : Nat} {M M' : Int → Option Nat} {N N' : Nat} {y : Int} {sz : Nat → Int} (h : BufAt w b M N y sz) (c0 : w.cell? ⟨b, 0, none⟩ = some (.map (some bm))) (hbm : b < bm) (hm : MapIs w bm M N) (o : Obj)
    (hm' : MapIs (putMap w bm o) bm M' N') (hr : ∀ s p, M' s = some p → p ≠ b ∧ RowAt w p (sz p)) : BufAt (putMap w bm o) b M' N' y sz := by
  have hk : (putMap w bm o).heap[b]? = w.heap[b]? := putMap_other w bm o b (by omega)
  have e := fun off => World.cell?_of_block (w := w) (w' := putMap w bm o) (a := ⟨b, off, none⟩) hk
  have f := fun off => World.frozen?_of_block (w := w) (w' := putMap w bm o) (a := ⟨b, off, none⟩) hk
  refine ⟨.inr ⟨bm, (e 0).trans c0, hbm, hm'⟩, (e 1).trans h.c1, (e 2).trans h.c2, (e 3).trans h.c3, (e 4).trans h.c4, (f 0).trans h.f0, (f 1).trans h.f1, fun s p hs => ?_, ?_⟩
  · obtain ⟨h1, h2⟩ := hr s p hs
    exact ⟨h1, h2.kept (b := b) (Kept.putMap hm o) h1⟩
  · have := h.lt; simpa [putMap] using this

/-- The buffer behind a store of its count of bytes. -/
theorem BufAt.counted {w : World} {b : Nat} {M : Int → Option Nat} {N : Nat} {y : Int} {sz : Nat → Int} (h : BufAt w b M N y sz) (y' : Int) : BufAt (w.setCell ⟨b, 1, none⟩ (.int .i64 y')) b M N y' sz := by
  have hb := h.lt
  have d0 : (w.setCell ⟨b, 1, none⟩ (.int .i64 y')).cell? ⟨b, 0, none⟩ = w.cell? ⟨b, 0, none⟩ := by simp [go_sem]
  have d2 : (w.setCell ⟨b, 1, none⟩ (.int .i64 y')).cell? ⟨b, 2, none⟩ = w.cell? ⟨b, 2, none⟩ := by simp [go_sem]
  have d3 : (w.setCell ⟨b, 1, none⟩ (.int .i64 y')).cell? ⟨b, 3, none⟩ = w.cell? ⟨b, 3, none⟩ := by simp [go_sem]
  have d4 : (w.setCell ⟨b, 1, none⟩ (.int .i64 y')).cell? ⟨b, 4, none⟩ = w.cell? ⟨b, 4, none⟩ := by simp [go_sem]
  have c1 := h.c1
  have d1 : (w.setCell ⟨b, 1, none⟩ (.int .i64 y')).cell? ⟨b, 1, none⟩ = some (.int .i64 y') := by simp [go_sem, c1]
  refine ⟨?_, d1, d2.trans h.c2, d3.trans h.c3, d4.trans h.c4, (World.frozen?_setCell ..).trans h.f0, (World.frozen?_setCell ..).trans h.f1, fun s p hs => ?_, by simpa [World.setCell] using hb⟩
  · rcases h.map with ⟨h1, h2⟩ | ⟨bm, h1, h2, h3⟩
    · exact .inl ⟨d0.trans h1, h2⟩
    · exact .inr ⟨bm, d0.trans h1, h2, h3.of_block (Below.heap_setCell w ⟨b, 1, none⟩ _ bm (by show bm ≠ b; omega))⟩
  · obtain ⟨h1, h2⟩ := h.rows s p hs
    exact ⟨h1, h2.kept (b := b) (Kept.setCell b 1 w _) h1⟩
theorem BufAt.heap {w w' : World} {b : Nat} {M : Int → Option Nat} {N : Nat} {y : Int} {sz : Nat → Int} (h : BufAt w b M N y sz) (e : w'.heap = w.heap) : BufAt w' b M N y sz := by
  have e1 := fun a => World.cell?_of_block (w := w) (w' := w') (a := a) (by rw [e])
  have f1 := fun a => World.frozen?_of_block (w := w) (w' := w') (a := a) (by rw [e])
  refine ⟨?_, (e1 _).trans h.c1, (e1 _).trans h.c2, (e1 _).trans h.c3, (e1 _).trans h.c4, (f1 _).trans h.f0, (f1 _).trans h.f1, fun s p hs => ⟨(h.rows s p hs).1, (h.rows s p hs).2.kept (b := b) (Kept.heap e) (h.rows s p hs).1⟩, by rw [e]; exact h.lt⟩
  rcases h.map with ⟨h1, h2⟩ | ⟨bm, h1, h2, h3⟩
  · exact .inl ⟨(e1 _).trans h1, h2⟩
  · exact .inr ⟨bm, (e1 _).trans h1, h2, h3.of_block (by rw [e])⟩

theorem counted_facts {w w1 : World} {b bm : Nat} {M : Int → Option Nat} {N : Nat} {y : Int} {sz : Nat → Int} (h : BufAt w b M N y sz) (c0 : w.cell? ⟨b, 0, none⟩ = some (.map (some bm))) (hbm : b < bm) (hm : MapIs w bm M N) (g : w1.heap = w.heap) (gb : Below w.heap.size w w1) (y' : Int) :
    ∃ W, W = w1.setCell ⟨b, 1, none⟩ (.int .i64 y') ∧ BufAt W b M N y' sz ∧ W.cell? ⟨b, 0, none⟩ = some (.map (some bm)) ∧ MapIs W bm M N ∧ Kept b w W ∧ Below b w W := by
  have h1 := h.heap g
  have c01 : w1.cell? ⟨b, 0, none⟩ = some (.map (some bm)) := (World.cell?_of_block (w := w) (w' := w1) (a := ⟨b, 0, none⟩) (by rw [g])).trans c0
  refine ⟨_, rfl, h1.counted y', ?_, (hm.of_block (w' := w1) (by rw [g])).of_block (Below.heap_setCell w1 ⟨b, 1, none⟩ _ bm (by show bm ≠ b; omega)), (Kept.heap g).trans (Kept.setCell b 1 w1 _), (gb.mono (Nat.le_of_lt h.lt)).trans below_setB⟩
  rw [← c01]; simp [go_sem]

theorem upd_rows {w : World} {b : Nat} {M : Int → Option Nat} {sz : Nat → Int} {s : Int} {r : Option Nat} (h : ∀ t p, M t = some p → p ≠ b ∧ RowAt w p (sz p)) (hr : ∀ p, r = some p → p ≠ b ∧ RowAt w p (sz p)) : ∀ t p, upd M s r t = some p → p ≠ b ∧ RowAt w p (sz p) := by
  intro t p ht
  unfold upd at ht
  split at ht
  · exact hr p ht
  · exact h t p ht

set_option maxHeartbeats 1000000 in
/-- Nothing held at s, none put. -/
theorem put_nn (w : World) (b : Nat) (M : Int → Option Nat) (N : Nat) (y : Int) (sz : Nat → Int) (h : BufAt w b M N y sz) (s : Int) (hs : M s = none) :
    Calls Trym.prog 51 #[.pointer (some ⟨b, 0, none⟩), .int .i64 s, .pointer none] w fun e w' => e = .returned (.tuple #[]) ∧ BufAt w' b (upd M s none) N y sz ∧ Kept b w w' ∧ Below b w w' := by
  have e0 : upd M s none = M := upd_none hs
  rw [e0]
  clear e0
  rcases h.map with ⟨c0, hM, -⟩ | ⟨bm, c0, hbm, hm⟩
  · have hl := fun w => look_nil w s
    have hd := fun w => del_nil w s 0
    clear hM hs
    go_enter Trym.func51, Trym.ntmps51
    go_wp2
    exact bodyPost_ret (v := .tuple #[]) (by simp [results, Trym.results51]) rfl ⟨rfl, h, Kept.refl _ _, Below.refl _ _⟩
  · have hl := hm.look s
    rw [hs] at hl
    have hl' : (Instr.lookup 73 (.map (some bm)) (.int .i64 s) true).run Trym.prog w = .ok (.tuple #[.pointer none, .bool false]) w := hl
    obtain ⟨o, hd, hm'⟩ := hm.del s 0
    rw [upd_none hs, hs] at hm'
    have hB := h.mapped c0 hbm hm o hm' h.rows
    clear hl hs
    go_enter Trym.func51, Trym.ntmps51
    go_wp2
    exact bodyPost_ret (v := .tuple #[]) (by simp [results, Trym.results51]) rfl ⟨rfl, hB, Kept.putMap hm o, below_putMap w bm o (by omega)⟩

set_option maxHeartbeats 1000000 in
/-- A row held at s, none put. -/
theorem put_sn (w : World) (b : Nat) (M : Int → Option Nat) (N : Nat) (y : Int) (sz : Nat → Int) (h : BufAt w b M N y sz) (y0 : -4398046511104 ≤ y) (y1 : y ≤ 4398046511104) (s : Int) (q : Nat) (hs : M s = some q) :
    Calls Trym.prog 51 #[.pointer (some ⟨b, 0, none⟩), .int .i64 s, .pointer none] w fun e w' => e = .returned (.tuple #[]) ∧ BufAt w' b (upd M s none) (N - 1) (y - sz q) sz ∧ Kept b w w' ∧ Below b w w' := by
  rcases h.map with ⟨c0, hM, -⟩ | ⟨bm, c0, hbm, hm⟩
  · rw [hM s] at hs; cases hs
  · have hl := hm.look s
    rw [hs] at hl
    have hl' : (Instr.lookup 73 (.map (some bm)) (.int .i64 s) true).run Trym.prog w = .ok (.tuple #[.pointer (some ⟨q, 0, none⟩), .bool true]) w := hl
    obtain ⟨hqb, hq⟩ := h.rows s q hs
    have c1 := h.c1
    have f1 := h.f1
    have sq : 0 ≤ sz q ∧ sz q ≤ 2097152 := by
      obtain ⟨_, n1, _, _, n2, _, _, _, h3, h4, h5⟩ := hq; omega
    obtain ⟨sq0, sq1⟩ := sq
    clear hl
    go_enter Trym.func51, Trym.ntmps51
    go_wp2
    go_region_with
      (first | (go_at_call 56; refine (size_still _ q (sz q) ?_).mono ?_; exact hq.kept (b := b) (Kept.heap rfl) hqb; rintro e w1 ⟨rfl, g1, g2, g3, g4⟩; have G3 : Hid (w1.heap = w.heap) := g3; clear g3))
    all_goals
      rw [show IntKind.i64.wrap (y - sz q) = y - sz q from by rw [IntKind.wrap_i64]; omega]
      obtain ⟨W, hW, hB, c0W, hmW, hK, hL⟩ := counted_facts h c0 hbm hm G3.out (Below.trans (B := w.heap.size) ((Below.refl _ _).drew) g4) (y - sz q)
      rw [← hW]
      obtain ⟨o, hd, hm'⟩ := hmW.del s 0
      rw [hs] at hm'
      have hB' := hB.mapped c0W hbm hmW o hm' (upd_rows hB.rows (fun p hp => by cases hp))
      clear hl' c0 c1 f1 G3 g4 hW hm' hq
      go_wp2
      exact bodyPost_ret (v := .tuple #[]) (by simp [results, Trym.results51]) rfl ⟨rfl, hB', hK.trans (Kept.putMap hmW o), hL.trans (below_putMap W bm o (by omega))⟩

set_option maxHeartbeats 2000000 in
/-- Nothing held at s, a row put; the map is there. -/
theorem put_ns (w : World) (b bm : Nat) (M : Int → Option Nat) (N : Nat) (y : Int) (sz : Nat → Int) (h : BufAt w b M N y sz) (c0 : w.cell? ⟨b, 0, none⟩ = some (.map (some bm))) (hbm : b < bm) (hm : MapIs w bm M N) (y0 : -4398046511104 ≤ y) (y1 : y ≤ 4398046511104) (s : Int) (p : Nat) (hs : M s = none) (hpb : p ≠ b) (hp : RowAt w p (sz p)) :
    Calls Trym.prog 51 #[.pointer (some ⟨b, 0, none⟩), .int .i64 s, .pointer (some ⟨p, 0, none⟩)] w fun e w' => e = .returned (.tuple #[]) ∧ BufAt w' b (upd M s (some p)) (N + 1) (y + sz p) sz ∧ Kept b w w' ∧ Below b w w' := by
  have hl := hm.look s
  rw [hs] at hl
  have hl' : (Instr.lookup 73 (.map (some bm)) (.int .i64 s) true).run Trym.prog w = .ok (.tuple #[.pointer none, .bool false]) w := hl
  have hnil := fun w r => run_eql_map_nil (P := Trym.prog) w 73 2 35 r Trym.underlying73
  have sq : 0 ≤ sz p ∧ sz p ≤ 2097152 := by
    obtain ⟨_, n1, _, _, n2, _, _, _, h3, h4, h5⟩ := hp; omega
  obtain ⟨sq0, sq1⟩ := sq
  obtain ⟨o, hd, hm'⟩ := hm.store s p
  rw [hs] at hm'
  have hB1 := h.mapped c0 hbm hm o hm' (upd_rows h.rows (fun q hq => by cases hq; exact ⟨hpb, hp⟩))
  have hK1 : Kept b w (putMap w bm o) := Kept.putMap hm o
  have hL1 : Below b w (putMap w bm o) := below_putMap w bm o (by omega)
  have hp1 := hp.kept hK1 hpb
  have c01 : (putMap w bm o).cell? ⟨b, 0, none⟩ = some (.map (some bm)) := (World.cell?_of_block (w := w) (w' := putMap w bm o) (a := ⟨b, 0, none⟩) (putMap_other w bm o b (by omega))).trans c0
  generalize putMap w bm o = W1 at *
  have c1 := hB1.c1
  have f1 := hB1.f1
  clear hl
  go_enter Trym.func51, Trym.ntmps51
  go_wp2
  go_region_with
    (first | (go_at_call 56; refine (size_still _ p (sz p) ?_).mono ?_; exact hp1.kept (b := b) (Kept.heap rfl) hpb; rintro e w1 ⟨rfl, g1, g2, g3, g4⟩; have G3 : Hid (w1.heap = W1.heap) := g3; clear g3))
  all_goals
    rw [show IntKind.i64.wrap (y + sz p) = y + sz p from by rw [IntKind.wrap_i64]; omega]
    obtain ⟨W, hW, hB, c0W, hmW, hK, hL⟩ := counted_facts hB1 c01 hbm hm' G3.out (Below.trans (B := W1.heap.size) ((Below.refl _ _).drew) g4) (y + sz p)
    rw [← hW]
    clear hl' c0 c1 f1 G3 g4 hW hp
    go_wp2
    go_end0
    exact ⟨rfl, hB, hK1.trans hK, hL1.trans hL⟩

end Go.Proofs.Qxb6603509aMods
