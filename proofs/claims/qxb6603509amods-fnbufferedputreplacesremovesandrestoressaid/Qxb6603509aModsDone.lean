/-
  A SCRIPT OF PUTS, STEP BY STEP: what holds of the buffer and of the rows behind k steps.
-/
import Derived.Test.Qxb6603509aModsLast
import Derived.Test.Qxb6603509aModsZz2
namespace Go.Proofs.Qxb6603509aMods
open Go.RowKit

theorem rowIs_block {w : World} {b : Nat} {t : TypeId} {n : Nat} {f : Nat → Value} (h : w.rowIs b t n f) : ∃ c, w.heap[b]? = some (.cells c t (0, 0)) := by
  obtain ⟨c, hb, _, _⟩ := h
  exact ⟨c, hb⟩

/-- A store into another row of cells. -/
theorem BufAt.elsewhere {w : World} {b : Nat} {M : Int → Option Nat} {N : Nat} {y : Int} {sz : Nat → Int} (h : BufAt w b M N y sz) {rb : Nat} (hne : rb ≠ b) {c : Array Value} {t : TypeId} {fz : Nat × Nat} (hc : w.heap[rb]? = some (.cells c t fz)) (hp : ∀ s p, M s = some p → p ≠ rb) (off : Nat) (v : Value) :
    BufAt (w.setCell ⟨rb, off, none⟩ v) b M N y sz := by
  have hk : ∀ k, k ≠ rb → (w.setCell ⟨rb, off, none⟩ v).heap[k]? = w.heap[k]? := fun k hk => Below.heap_setCell w ⟨rb, off, none⟩ v k hk
  have e := fun o => World.cell?_of_block (w := w) (w' := w.setCell ⟨rb, off, none⟩ v) (a := ⟨b, o, none⟩) (hk b (Ne.symm hne))
  have f := fun o => World.frozen?_of_block (w := w) (w' := w.setCell ⟨rb, off, none⟩ v) (a := ⟨b, o, none⟩) (hk b (Ne.symm hne))
  refine ⟨?_, (e 1).trans h.c1, (e 2).trans h.c2, (e 3).trans h.c3, (e 4).trans h.c4, (f 0).trans h.f0, (f 1).trans h.f1, fun s p hs => ?_, by simpa [World.setCell] using h.lt⟩
  · rcases h.map with ⟨h1, h2⟩ | ⟨bm, h1, h2, h3⟩
    · exact .inl ⟨(e 0).trans h1, h2⟩
    · exact .inr ⟨bm, (e 0).trans h1, h2, h3.of_block (hk bm (Ne.symm (h3.ne_cells hc)))⟩
  · obtain ⟨h1, a1, n1, c1, a2, n2, c2, h4, h5, h6⟩ := h.rows s p hs
    have hpr := hp s p hs
    exact ⟨h1, a1, n1, c1, a2, n2, c2, (World.cell?_of_block (w := w) (a := ⟨p, 4, none⟩) (hk p hpr)).trans h4, (World.cell?_of_block (w := w) (a := ⟨p, 24, none⟩) (hk p hpr)).trans h5, h6⟩

/-- Another count of the blocks' weights, alike on what is held. -/
theorem BufAt.reweigh {w : World} {b : Nat} {M : Int → Option Nat} {N : Nat} {y : Int} {sz sz' : Nat → Int} (h : BufAt w b M N y sz) (e : ∀ s p, M s = some p → sz' p = sz p) : BufAt w b M N y sz' :=
  ⟨h.map, h.c1, h.c2, h.c3, h.c4, h.f0, h.f1, fun s p hs => ⟨(h.rows s p hs).1, by rw [e s p hs]; exact (h.rows s p hs).2⟩, h.lt⟩
theorem BufAt.same {w : World} {b : Nat} {M M' : Int → Option Nat} {N N' : Nat} {y y' : Int} {sz : Nat → Int} (h : BufAt w b M N y sz) (e1 : M = M') (e2 : N = N') (e3 : y = y') : BufAt w b M' N' y' sz := by
  subst e1 e2 e3; exact h

theorem info35 : (Trym.prog.info? 35).map (fun i => (i.zero, i.size, i.bytes)) = some (some (.pointer none), 1, 8) := by kernel_rfl

/-- The row's block of a step, or none where it drops. -/
def rowOf (S : Scr) (rp : Nat → Nat) (j : Nat) : Option Nat := (puts S.drop j).map rp
/-- What the buffer holds behind k puts. -/
def mapOf (S : Scr) (z : Nat → Int) (rp : Nat → Nat) (k : Nat) (s : Int) : Option Nat := (lastOf z S.drop k s).map rp

/-- The script's k first steps are put: rp: their rows' blocks; sz: what a block weighs. -/
structure Done (S : Scr) (z : Nat → Int) (w : World) (b : Nat) (k : Nat) (rp : Nat → Nat) (sz : Nat → Int) : Prop where
  buf : BufAt w b (mapOf S z rp k) (heldN z S.drop k) (heldW z S.drop S.size k) sz
  wt : ∀ j, j < k → S.drop j = false → sz (rp j) = S.size j
  row : ∀ j, j < k → S.drop j = false → b < rp j ∧ RowAt w (rp j) (S.size j)

def setN (f : Nat → Nat) (k v : Nat) (j : Nat) : Nat := if j = k then v else f j
def setZ (f : Nat → Int) (k : Nat) (v : Int) (j : Nat) : Int := if j = k then v else f j

theorem mapOf_some {S : Scr} {z : Nat → Int} {rp : Nat → Nat} {k p : Nat} {s : Int} (h : mapOf S z rp k s = some p) : ∃ i, i < k ∧ S.drop i = false ∧ lastOf z S.drop k s = some i ∧ rp i = p := by
  unfold mapOf at h
  obtain ⟨i, h1, h2⟩ := Option.map_eq_some_iff.1 h
  obtain ⟨h3, _, h5⟩ := last_some h1
  exact ⟨i, h3, h5, h1, h2⟩

theorem osz_map {S : Scr} {z : Nat → Int} {rp : Nat → Nat} {sz : Nat → Int} {k : Nat} {s : Int} (wt : ∀ j, j < k → S.drop j = false → sz (rp j) = S.size j) : osz sz (mapOf S z rp k s) = osz S.size (lastOf z S.drop k s) := by
  unfold mapOf
  cases h : lastOf z S.drop k s with
  | none => rfl
  | some i => obtain ⟨h1, _, h3⟩ := last_some h; exact wt i h1 h3
theorem cntP_map (rp : Nat → Nat) (a b : Option Nat) (N : Nat) : cntP (a.map rp) (b.map rp) N = cntP a b N := by
  cases a <;> cases b <;> rfl

/-- One put more. -/
theorem mapOf_step (S : Scr) (z : Nat → Int) (rp : Nat → Nat) (k : Nat) : upd (mapOf S z rp k) (z k) (rowOf S rp k) = mapOf S z rp (k + 1) := by
  funext s
  unfold upd mapOf rowOf
  show _ = ((if z k = s then puts S.drop k else lastOf z S.drop k s).map rp)
  by_cases e : s = z k
  · rw [if_pos e, if_pos e.symm]
  · rw [if_neg e, if_neg (Ne.symm e)]

theorem mapOf_setN {S : Scr} {z : Nat → Int} {rp : Nat → Nat} {k p : Nat} : mapOf S z (setN rp k p) k = mapOf S z rp k := by
  funext s
  unfold mapOf
  cases h : lastOf z S.drop k s with
  | none => rfl
  | some i =>
    have := (last_some h).1
    show some (setN rp k p i) = some (rp i)
    unfold setN; rw [if_neg (by omega)]

theorem RowAt.lt {w : World} {p : Nat} {n : Int} (h : RowAt w p n) : p < w.heap.size := by
  obtain ⟨_, _, _, _, _, _, hc, _⟩ := h
  obtain ⟨c, t, fz, hblk⟩ := cells_of_cell hc
  exact (Array.getElem?_eq_some_iff.1 hblk).1

/-- zzRow has made step k's row. -/
theorem Done.fresh {S : Scr} {z : Nat → Int} {w w1 : World} {b k : Nat} {rp : Nat → Nat} {sz : Nat → Int} (h : Done S z w b k rp sz) (hb : Below w.heap.size w w1) (p : Nat) (hp0 : w.heap.size ≤ p) (hp : S.drop k = false → RowAt w1 p (S.size k)) :
    Done S z w1 b k (setN rp k p) (setZ sz p (S.size k)) ∧ ∀ q, rowOf S (setN rp k p) k = some q → q ≠ b ∧ b < q ∧ RowAt w1 q (setZ sz p (S.size k) q) := by
  have hlt := h.buf.lt
  have hne : ∀ j, j < k → S.drop j = false → rp j ≠ p := fun j hj hd => by have := (h.row j hj hd).2.lt; omega
  refine ⟨⟨?_, ?_, ?_⟩, ?_⟩
  · rw [mapOf_setN]
    refine (h.buf.below hb).reweigh fun s q hq => ?_
    obtain ⟨i, h1, h2, _, h4⟩ := mapOf_some hq
    unfold setZ; rw [if_neg (by rw [← h4]; exact hne i h1 h2)]
  · intro j hj hd
    have : setN rp k p j = rp j := by unfold setN; rw [if_neg (by omega)]
    rw [this]
    unfold setZ; rw [if_neg (hne j hj hd)]; exact h.wt j hj hd
  · intro j hj hd
    have : setN rp k p j = rp j := by unfold setN; rw [if_neg (by omega)]
    rw [this]
    obtain ⟨h1, h2⟩ := h.row j hj hd
    exact ⟨h1, h2.kept (b := b) (Kept.of_below hb) (by omega)⟩
  · intro q hq
    unfold rowOf at hq
    obtain ⟨i, h1, h2⟩ := Option.map_eq_some_iff.1 hq
    obtain ⟨rfl, hd⟩ := puts_some h1
    have : setN rp i p i = p := by unfold setN; rw [if_pos rfl]
    rw [this] at h2
    subst h2
    refine ⟨by omega, by omega, ?_⟩
    unfold setZ; rw [if_pos rfl]; exact hp hd

/-- ZZput has put it. -/
theorem Done.put {S : Scr} {z : Nat → Int} {w w' : World} {b k : Nat} {rp : Nat → Nat} {sz : Nat → Int} (h : Done S z w b k rp sz) (hr : ∀ q, rowOf S rp k = some q → q ≠ b ∧ b < q ∧ RowAt w q (sz q)) (hw : S.drop k = false → sz (rp k) = S.size k)
    (hB : BufAt w' b (upd (mapOf S z rp k) (z k) (rowOf S rp k)) (cntP (mapOf S z rp k (z k)) (rowOf S rp k) (heldN z S.drop k)) (heldW z S.drop S.size k - osz sz (mapOf S z rp k (z k)) + osz sz (rowOf S rp k)) sz) (hK : Kept b w w') : Done S z w' b (k + 1) rp sz := by
  refine ⟨hB.same (mapOf_step S z rp k) ?_ ?_, ?_, ?_⟩
  · show cntP ((lastOf z S.drop k (z k)).map rp) ((puts S.drop k).map rp) _ = _
    rw [cntP_map]; rfl
  · rw [osz_map h.wt]
    have : osz sz (rowOf S rp k) = osz S.size (puts S.drop k) := by
      unfold rowOf puts
      cases hd : S.drop k
      · exact hw hd
      · rfl
    rw [this]; rfl
  · intro j hj hd
    by_cases e : j = k
    · subst e; exact hw hd
    · exact h.wt j (by omega) hd
  · intro j hj hd
    by_cases e : j = k
    · subst e
      obtain ⟨h1, h2, h3⟩ := hr (rp j) (by unfold rowOf puts; rw [hd]; rfl)
      rw [hw hd] at h3
      exact ⟨h2, h3.kept hK h1⟩
    · obtain ⟨h1, h2⟩ := h.row j (by omega) hd
      exact ⟨h1, h2.kept hK (by omega)⟩

/-- A store into another row of cells. -/
theorem Done.elsewhere {S : Scr} {z : Nat → Int} {w : World} {b k : Nat} {rp : Nat → Nat} {sz : Nat → Int} (h : Done S z w b k rp sz) {rb : Nat} (hne : rb ≠ b) {c : Array Value} {t : TypeId} {fz : Nat × Nat} (hc : w.heap[rb]? = some (.cells c t fz)) (hp : ∀ j, j < k → S.drop j = false → rp j ≠ rb) (off : Nat) (v : Value) :
    Done S z (w.setCell ⟨rb, off, none⟩ v) b k rp sz := by
  refine ⟨h.buf.elsewhere hne hc (fun s q hq => ?_) off v, h.wt, fun j hj hd => ?_⟩
  · obtain ⟨i, h1, h2, _, h4⟩ := mapOf_some hq
    rw [← h4]; exact hp i h1 h2
  · obtain ⟨h1, a1, n1, c1, a2, n2, c2, h4, h5, h6⟩ := h.row j hj hd
    have hk := Below.heap_setCell w ⟨rb, off, none⟩ v (rp j) (hp j hj hd)
    exact ⟨h1, a1, n1, c1, a2, n2, c2, (World.cell?_of_block (w := w) (a := ⟨rp j, 4, none⟩) hk).trans h4, (World.cell?_of_block (w := w) (a := ⟨rp j, 24, none⟩) hk).trans h5, h6⟩

theorem size_range {S : Scr} (hS : S.Small) (i : Nat) : 0 ≤ S.size i ∧ S.size i ≤ 2097152 := by
  have := hS.pl_le i
  have := hS.rl_le i
  unfold Scr.size; omega
theorem held_range {S : Scr} (hS : S.Small) (z : Nat → Int) (k : Nat) (hk : k ≤ 4096) : 0 ≤ heldW z S.drop S.size k ∧ heldW z S.drop S.size k ≤ 8589934592 := by
  rw [held_sum]
  obtain ⟨h1, h2⟩ := sum_range (seq := z) (drop := S.drop) S.size 2097152 (size_range hS) k k
  exact ⟨h1, by omega⟩

theorem done_start {S : Scr} {z : Nat → Int} {w : World} {b : Nat} {sz : Nat → Int} (h : BufAt w b (fun _ => none) 0 0 sz) (rp : Nat → Nat) : Done S z w b 0 rp sz :=
  ⟨h, fun j hj => absurd hj (by omega), fun j hj => absurd hj (by omega)⟩
end Go.Proofs.Qxb6603509aMods
