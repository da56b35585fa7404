/-
  put, the rest: the first row of all; a row in the place of another; the contract.
-/
import Derived.Test.Qxb6603509aModsPut
namespace Go.Proofs.Qxb6603509aMods
open Go.RowKit

theorem made_facts {w : World} {b : Nat} {M : Int → Option Nat} {N : Nat} {y : Int} {sz : Nat → Int} (h : BufAt w b M N y sz) (c0 : w.cell? ⟨b, 0, none⟩ = some (.map none)) (hM : ∀ s, M s = none) (hN : N = 0) :
    let W := (w.setCell ⟨b, 0, none⟩ (.map (some w.heap.size))).alloc (.map #[] 0)
    BufAt W b M N y sz ∧ W.cell? ⟨b, 0, none⟩ = some (.map (some w.heap.size)) ∧ MapIs W w.heap.size M N ∧ Kept b w W ∧ Below b w W := by
  intro W
  have hlt := h.lt
  have hsz : (w.setCell ⟨b, 0, none⟩ (.map (some w.heap.size))).heap.size = w.heap.size := by simp [World.setCell]
  have hmap : MapIs W w.heap.size M N := by
    refine ⟨#[], 0, ?_, by simp [hN], ⟨fun x hx => (by simp at hx), fun s p hs => (by rw [hM s] at hs; cases hs), (by simp)⟩⟩
    have := Go.Deep.blk_alloc_new (w.setCell ⟨b, 0, none⟩ (.map (some w.heap.size))) (.map #[] 0)
    rw [hsz] at this; exact this
  have hK : Kept b w W := (Kept.setCell b 0 w _).trans ⟨by simp [W], fun k _ c t fz hc => (Go.Deep.blk_alloc_lt _ _ _ (Array.getElem?_eq_some_iff.1 hc).1).trans hc⟩
  have hL : Below b w W := below_setB.trans ((Below.refl _ _).alloc (by rw [hsz]; omega) _)
  have c0W : W.cell? ⟨b, 0, none⟩ = some (.map (some w.heap.size)) := by simp [W, go_sem, hlt, c0]
  have c1 := h.c1
  have c2 := h.c2
  have c3 := h.c3
  have c4 := h.c4
  have f0 := h.f0
  have f1 := h.f1
  have ne : ¬ b = w.heap.size := by omega
  refine ⟨⟨.inr ⟨_, c0W, hlt, hmap⟩, ?_, ?_, ?_, ?_, ?_, ?_, fun s p hs => (by rw [hM s] at hs; cases hs), ?_⟩, c0W, hmap, hK, hL⟩
  · simp [W, go_sem, hlt, c1]
  · simp [W, go_sem, hlt, c2]
  · simp [W, go_sem, hlt, c3]
  · simp [W, go_sem, hlt, c4]
  · rw [World.frozen?_alloc_old _ _ _ (by rw [hsz]; exact ne), World.frozen?_setCell]; exact f0
  · rw [World.frozen?_alloc_old _ _ _ (by rw [hsz]; exact ne), World.frozen?_setCell]; exact f1
  · exact Nat.lt_of_lt_of_le hlt hK.size

set_option maxHeartbeats 2000000 in
/-- The map is not yet there. -/
theorem put_ns0 (w : World) (b : Nat) (M : Int → Option Nat) (N : Nat) (y : Int) (sz : Nat → Int) (h : BufAt w b M N y sz) (c0 : w.cell? ⟨b, 0, none⟩ = some (.map none)) (hM : ∀ s, M s = none) (hN : N = 0) (y0 : -4398046511104 ≤ y) (y1 : y ≤ 4398046511104) (s : Int) (p : Nat) (hpb : p ≠ b) (hp : RowAt w p (sz p)) :
    Calls Trym.prog 51 #[.pointer (some ⟨b, 0, none⟩), .int .i64 s, .pointer (some ⟨p, 0, none⟩)] w fun e w' => e = .returned (.tuple #[]) ∧ BufAt w' b (upd M s (some p)) (N + 1) (y + sz p) sz ∧ Kept b w w' ∧ Below b w w' := by
  have hl := fun w => look_nil w s
  have hnil := fun w r => run_eql_map_nil (P := Trym.prog) w 73 2 35 r Trym.underlying73
  have hmm := @run_makeMap Trym.prog
  have f0 := h.f0
  have hlt := h.lt
  have sq : 0 ≤ sz p ∧ sz p ≤ 2097152 := by
    obtain ⟨_, n1, _, _, n2, _, _, _, h3, h4, h5⟩ := hp; omega
  obtain ⟨sq0, sq1⟩ := sq
  obtain ⟨hB0, c00, hm0, hK0, hL0⟩ := made_facts h c0 hM hN
  have hp0 := hp.kept hK0 hpb
  obtain ⟨o, hd, hm'⟩ := hm0.store s p
  rw [hM s] at hm'
  have hB1 := hB0.mapped c00 hlt hm0 o hm' (upd_rows hB0.rows (fun q hq => by cases hq; exact ⟨hpb, hp0⟩))
  have hK1 := hK0.trans (Kept.putMap (b := b) hm0 o)
  have hL1 := hL0.trans (below_putMap _ w.heap.size o (B := b) (by omega))
  have hp1 := hp.kept hK1 hpb
  have c01 := (World.cell?_of_block (a := ⟨b, 0, none⟩) (putMap_other _ w.heap.size o b (by omega))).trans c00
  clear hB0 c00 hm0 hK0 hL0 hp0 h
  have HM : Hid (∀ s, M s = none) := hM
  clear hM
  generalize hW1 : putMap ((w.setCell ⟨b, 0, none⟩ (.map (some w.heap.size))).alloc (.map #[] 0)) w.heap.size o = W1 at *
  clear hW1
  have c1 := hB1.c1
  have f1 := hB1.f1
  go_enter Trym.func51, Trym.ntmps51
  go_wp2
  go_region_with
    (first | (go_at_call 56; refine (size_still _ p (sz p) ?_).mono ?_; exact hp1.kept (b := b) (Kept.heap rfl) hpb; rintro e w1 ⟨rfl, g1, g2, g3, g4⟩; have G3 : Hid (w1.heap = W1.heap) := g3; clear g3))
  all_goals
    rw [show IntKind.i64.wrap (y + sz p) = y + sz p from by rw [IntKind.wrap_i64]; omega]
    obtain ⟨W, hW, hB, c0W, hmW, hK, hL⟩ := counted_facts hB1 c01 hlt hm' G3.out (Below.trans (B := W1.heap.size) ((Below.refl _ _).drew) g4) (y + sz p)
    rw [← hW]
    clear c0 c1 f1 G3 g4 hW hp
    go_wp2
    go_end0
    exact ⟨rfl, hB, hK1.trans hK, hL1.trans hL⟩

set_option maxHeartbeats 4000000 in
/-- A row in the place of another. -/
theorem put_ss (w : World) (b : Nat) (M : Int → Option Nat) (N : Nat) (y : Int) (sz : Nat → Int) (h : BufAt w b M N y sz) (y0 : -4398046511104 ≤ y) (y1 : y ≤ 4398046511104) (s : Int) (q p : Nat) (hs : M s = some q) (hpb : p ≠ b) (hp : RowAt w p (sz p)) :
    Calls Trym.prog 51 #[.pointer (some ⟨b, 0, none⟩), .int .i64 s, .pointer (some ⟨p, 0, none⟩)] w fun e w' => e = .returned (.tuple #[]) ∧ BufAt w' b (upd M s (some p)) N (y - sz q + sz p) sz ∧ Kept b w w' ∧ Below b w w' := by
  rcases h.map with ⟨c0, hM, -⟩ | ⟨bm, c0, hbm, hm⟩
  · rw [hM s] at hs; cases hs
  · have hl := hm.look s
    rw [hs] at hl
    have hl' : (Instr.lookup 73 (.map (some bm)) (.int .i64 s) true).run Trym.prog w = .ok (.tuple #[.pointer (some ⟨q, 0, none⟩), .bool true]) w := hl
    have hnil := fun w r => run_eql_map_nil (P := Trym.prog) w 73 2 35 r Trym.underlying73
    obtain ⟨hqb, hq⟩ := h.rows s q hs
    have c1 := h.c1
    have f1 := h.f1
    have sq : 0 ≤ sz q ∧ sz q ≤ 2097152 := by
      obtain ⟨_, n1, _, _, n2, _, _, _, h3, h4, h5⟩ := hq; omega
    obtain ⟨sq0, sq1⟩ := sq
    have sp : 0 ≤ sz p ∧ sz p ≤ 2097152 := by
      obtain ⟨_, n1, _, _, n2, _, _, _, h3, h4, h5⟩ := hp; omega
    obtain ⟨sp0, sp1⟩ := sp
    clear hl
    go_enter Trym.func51, Trym.ntmps51
    go_wp2
    go_region_with
      (first | (go_at_call 56; refine (size_still _ q (sz q) ?_).mono ?_; exact hq.kept (b := b) (Kept.heap rfl) hqb; rintro e w1 ⟨rfl, g1, g2, g3, g4⟩; have G3 : Hid (w1.heap = w.heap) := g3; clear g3))
    all_goals
      rw [show IntKind.i64.wrap (y - sz q) = y - sz q from by rw [IntKind.wrap_i64]; omega]
      obtain ⟨W, hW, hB, c0W, hmW, hK, hL⟩ := counted_facts h c0 hbm hm G3.out (Below.trans (B := w.heap.size) ((Below.refl _ _).drew) g4) (y - sz q)
      rw [← hW]
      have hpW := hp.kept hK hpb
      obtain ⟨o, hd, hm'⟩ := hmW.store s p
      rw [hs] at hm'
      have hB1 := hB.mapped c0W hbm hmW o hm' (upd_rows hB.rows (fun r hr => by cases hr; exact ⟨hpb, hpW⟩))
      have hK1 : Kept b w (putMap W bm o) := hK.trans (Kept.putMap hmW o)
      have hL1 : Below b w (putMap W bm o) := hL.trans (below_putMap W bm o (by omega))
      have hp1 := hp.kept hK1 hpb
      have c01 : (putMap W bm o).cell? ⟨b, 0, none⟩ = some (.map (some bm)) := (World.cell?_of_block (w := W) (w' := putMap W bm o) (a := ⟨b, 0, none⟩) (putMap_other W bm o b (by omega))).trans c0W
      clear hl' c0 c1 f1 G3 g4 hW hq hp hpW hK hL hB
      generalize putMap W bm o = W1 at *
      have c1 := hB1.c1
      have f1 := hB1.f1
      go_wp2
      go_region_with
        (first | (go_at_call 56; refine (size_still _ p (sz p) ?_).mono ?_; exact hp1.kept (b := b) (Kept.heap rfl) hpb; rintro e w1 ⟨rfl, g1, g2, g3, g4⟩; have G3 : Hid (w1.heap = W1.heap) := g3; clear g3))
    all_goals
      rw [show IntKind.i64.wrap (y - sz q + sz p) = y - sz q + sz p from by rw [IntKind.wrap_i64]; omega]
      obtain ⟨W2, hW2, hB2, c02, hm2, hK2, hL2⟩ := counted_facts hB1 c01 hbm hm' G3.out (Below.trans (B := W1.heap.size) ((Below.refl _ _).drew) g4) (y - sz q + sz p)
      rw [← hW2]
      clear c1 f1 G3 g4 hW2 c01
      go_wp2
      go_end0
      exact ⟨rfl, hB2, hK1.trans hK2, hL1.trans hL2⟩
end Go.Proofs.Qxb6603509aMods
