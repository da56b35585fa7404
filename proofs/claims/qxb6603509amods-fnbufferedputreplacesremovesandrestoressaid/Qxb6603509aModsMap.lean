/-
  A MAP FROM int64 TO POINTERS THAT THE CALL MAKES: what it holds as a function, how many entries it has; look-up, store, delete, len at the operation.
-/
import Derived.Test.Qxb6603509aModsRows
import Derived.WalkKit
import Derived.WalkSpells
import Derived.WalkLawsBesides
import Derived.MapKept
import Derived.Maps.OwnSet
namespace Go.Proofs.Qxb6603509aMods
open Go.RowKit Go.MapKept

/-- nil, or a pointer to the head of a block. -/
def ptrOf : Option Nat → Value
  | none => .pointer none
  | some p => .pointer (some ⟨p, 0, none⟩)

/-- M with s set to v. -/
def upd (M : Int → Option Nat) (s : Int) (v : Option Nat) : Int → Option Nat := fun t => if t = s then v else M t

def Entry (M : Int → Option Nat) (x : MapEntry) : Prop := ∃ s p, x.key = .int .i64 s ∧ x.val = .pointer (some ⟨p, 0, none⟩) ∧ M s = some p

/-- A list of entries holds just M. -/
structure Holds (l : List MapEntry) (M : Int → Option Nat) : Prop where
  each : ∀ x ∈ l, Entry M x
  all : ∀ s p, M s = some p → ∃ x ∈ l, x.key = .int .i64 s
  once : (l.map (·.key)).Nodup

/-- Block bm is a map that holds just M, N entries. -/
def MapIs (w : World) (bm : Nat) (M : Int → Option Nat) (N : Nat) : Prop :=
  ∃ es clock, w.heap[bm]? = some (.map es clock) ∧ es.size = N ∧ Holds es.toList M

theorem MapIs.of_block {w w' : World} {bm N : Nat} {M : Int → Option Nat} (h : MapIs w bm M N) (e : w'.heap[bm]? = w.heap[bm]?) : MapIs w' bm M N := by
  obtain ⟨es, clock, hb, hn, hh⟩ := h
  exact ⟨es, clock, e.trans hb, hn, hh⟩
theorem MapIs.lt {w : World} {bm N : Nat} {M : Int → Option Nat} (h : MapIs w bm M N) : bm < w.heap.size := by
  obtain ⟨es, clock, hb, _, _⟩ := h
  obtain ⟨hlt, _⟩ := Array.getElem?_eq_some_iff.1 hb
  exact hlt
theorem MapIs.ne_cells {w : World} {bm N k : Nat} {M : Int → Option Nat} {c : Array Value} {t : TypeId} {fz : Nat × Nat} (h : MapIs w bm M N) (hk : w.heap[k]? = some (.cells c t fz)) : k ≠ bm := by
  obtain ⟨es, clock, hb, _, _⟩ := h
  intro e; subst e; rw [hk] at hb; cases hb

theorem keys_isKey {l : List MapEntry} {M : Int → Option Nat} (h : Holds l M) : ∀ x ∈ l, IsKey (.int .i64) x.key := by
  intro x hx
  obtain ⟨s, p, hk, _, _⟩ := h.each x hx
  rw [hk]; simp [IsKey]

theorem split_at {l : List MapEntry} {j : Nat} {e : MapEntry} (h : l[j]? = some e) : l = l.take j ++ e :: l.drop (j + 1) := by
  obtain ⟨hj, he⟩ := List.getElem?_eq_some_iff.1 h
  rw [← he, List.getElem_cons_drop, List.take_append_drop]


/-- v, ok := m[s] -/
theorem MapIs.look {w : World} {bm N : Nat} {M : Int → Option Nat} (h : MapIs w bm M N) (s : Int) :
    (Instr.lookup 73 (.map (some bm)) (.int .i64 s) true).run Trym.prog w = .ok (.tuple #[ptrOf (M s), .bool (M s).isSome]) w := by
  obtain ⟨es, clock, hb, hn, hh⟩ := h
  have hk : IsKey (.int .i64) (.int .i64 s) := by simp [IsKey]
  have u2 := Trym.underlying2
  rcases findNow_spec hk es.toList 0 (keys_isKey hh) with ⟨hf, hno⟩ | ⟨j, e, hf, hj, hek⟩
  · have hM : M s = none := by
      cases hM : M s with
      | none => rfl
      | some p => obtain ⟨x, hx, hxk⟩ := hh.all s p hM; exact absurd hxk (hno x hx)
    rw [hM]
    simp [Instr.lookup, run_underlying Trym.underlying73, Go.MapKept.run_getObj_map hb, run_checkKey u2 hk, run_findKey u2 hf, Result.andThen, ptrOf]
  · obtain ⟨s', p, h1, h2, h3⟩ := hh.each e (List.mem_of_getElem? hj)
    rw [hek] at h1
    cases h1
    rw [h3]
    simp [Instr.lookup, run_underlying Trym.underlying73, Go.MapKept.run_getObj_map hb, run_checkKey u2 hk, run_findKey u2 hf, Result.andThen, ptrOf, h2]

theorem look_nil (w : World) (s : Int) : (Instr.lookup 73 (.map none) (.int .i64 s) true).run Trym.prog w = .ok (.tuple #[.pointer none, .bool false]) w := by
  have hk : IsKey (.int .i64) (.int .i64 s) := by simp [IsKey]
  have hf : Instr.findNow (.int .i64) (.int .i64 s) [] 0 = some none := rfl
  simp [Instr.lookup, run_underlying Trym.underlying73, run_checkKey Trym.underlying2 hk, run_findKey Trym.underlying2 hf, Result.andThen]

theorem nodup_parts {α : Type} {a b : List α} {x : α} (h : (a ++ x :: b).Nodup) : x ∉ a ∧ x ∉ b ∧ (a ++ b).Nodup := by
  rw [List.nodup_append] at h
  obtain ⟨h1, h2, h3⟩ := h
  rw [List.nodup_cons] at h2
  refine ⟨fun hx => h3 x hx x (by simp) rfl, h2.1, ?_⟩
  rw [List.nodup_append]
  exact ⟨h1, h2.2, fun y hy z hz => h3 y hy z (by simp [hz])⟩

theorem Holds.set {a b : List MapEntry} {e : MapEntry} {M : Int → Option Nat} (h : Holds (a ++ e :: b) M) {s : Int} (hk : e.key = .int .i64 s) (p : Nat) : Holds (a ++ { e with key := .int .i64 s, val := .pointer (some ⟨p, 0, none⟩) } :: b) (upd M s (some p)) := by
  have hkeys : (a ++ { e with key := .int .i64 s, val := .pointer (some ⟨p, 0, none⟩) } :: b).map (·.key) = (a ++ e :: b).map (·.key) := by simp [hk]
  have hn := h.once
  rw [List.map_append, List.map_cons] at hn
  obtain ⟨n1, n2, -⟩ := nodup_parts hn
  refine ⟨?_, ?_, by rw [hkeys]; exact h.once⟩
  · intro x hx
    rcases List.mem_append.1 hx with hx | hx
    · obtain ⟨s', p', h1, h2, h3⟩ := h.each x (by simp [hx])
      refine ⟨s', p', h1, h2, ?_⟩
      have : s' ≠ s := fun e' => n1 (by rw [hk, ← e', ← h1]; exact List.mem_map_of_mem hx)
      unfold upd; rw [if_neg this]; exact h3
    · rcases List.mem_cons.1 hx with hx | hx
      · subst hx; exact ⟨s, p, rfl, rfl, by unfold upd; rw [if_pos rfl]⟩
      · obtain ⟨s', p', h1, h2, h3⟩ := h.each x (by simp [hx])
        refine ⟨s', p', h1, h2, ?_⟩
        have : s' ≠ s := fun e' => n2 (by rw [hk, ← e', ← h1]; exact List.mem_map_of_mem hx)
        unfold upd; rw [if_neg this]; exact h3
  · intro t q ht
    unfold upd at ht
    by_cases ets : t = s
    · subst ets; exact ⟨_, List.mem_append.2 (.inr (List.mem_cons_self ..)), rfl⟩
    · rw [if_neg ets] at ht
      obtain ⟨x, hx, hxk⟩ := h.all t q ht
      rcases List.mem_append.1 hx with hx | hx
      · exact ⟨x, by simp [hx], hxk⟩
      · rcases List.mem_cons.1 hx with hx | hx
        · subst hx; rw [hk] at hxk; cases hxk; exact absurd rfl ets
        · exact ⟨x, by simp [hx], hxk⟩

theorem Holds.push {l : List MapEntry} {M : Int → Option Nat} (h : Holds l M) {s : Int} (hno : ∀ x ∈ l, x.key ≠ .int .i64 s) (p born : Nat) : Holds (l ++ [{ key := .int .i64 s, val := .pointer (some ⟨p, 0, none⟩), born }]) (upd M s (some p)) := by
  refine ⟨?_, ?_, ?_⟩
  · intro x hx
    rcases List.mem_append.1 hx with hx | hx
    · obtain ⟨s', p', h1, h2, h3⟩ := h.each x hx
      refine ⟨s', p', h1, h2, ?_⟩
      have : s' ≠ s := fun e' => hno x hx (by rw [h1, e'])
      unfold upd; rw [if_neg this]; exact h3
    · simp at hx; subst hx; exact ⟨s, p, rfl, rfl, by unfold upd; rw [if_pos rfl]⟩
  · intro t q ht
    unfold upd at ht
    by_cases ets : t = s
    · subst ets; exact ⟨_, List.mem_append.2 (.inr (by simp; rfl)), rfl⟩
    · rw [if_neg ets] at ht
      obtain ⟨x, hx, hxk⟩ := h.all t q ht
      exact ⟨x, by simp [hx], hxk⟩
  · rw [List.map_append, List.nodup_append]
    refine ⟨h.once, by simp, ?_⟩
    intro a ha b hb e
    simp at hb
    obtain ⟨x, hx, rfl⟩ := List.mem_map.1 ha
    exact hno x hx (by rw [e, hb])

theorem Holds.drop {a b : List MapEntry} {e : MapEntry} {M : Int → Option Nat} (h : Holds (a ++ e :: b) M) {s : Int} (hk : e.key = .int .i64 s) : Holds (a ++ b) (upd M s none) := by
  have hn := h.once
  rw [List.map_append, List.map_cons] at hn
  obtain ⟨n1, n2, n3⟩ := nodup_parts hn
  rw [← List.map_append] at n3
  refine ⟨?_, ?_, n3⟩
  · intro x hx
    have hx' : x ∈ a ++ e :: b := by rcases List.mem_append.1 hx with hx | hx <;> simp [hx]
    obtain ⟨s', p', h1, h2, h3⟩ := h.each x hx'
    refine ⟨s', p', h1, h2, ?_⟩
    have : s' ≠ s := by
      intro e'
      rcases List.mem_append.1 hx with hx | hx
      · exact n1 (by rw [hk, ← e', ← h1]; exact List.mem_map_of_mem hx)
      · exact n2 (by rw [hk, ← e', ← h1]; exact List.mem_map_of_mem hx)
    unfold upd; rw [if_neg this]; exact h3
  · intro t q ht
    unfold upd at ht
    by_cases ets : t = s
    · rw [if_pos ets] at ht; cases ht
    · rw [if_neg ets] at ht
      obtain ⟨x, hx, hxk⟩ := h.all t q ht
      rcases List.mem_append.1 hx with hx | hx
      · exact ⟨x, by simp [hx], hxk⟩
      · rcases List.mem_cons.1 hx with hx | hx
        · subst hx; rw [hk] at hxk; cases hxk; exact absurd rfl ets
        · exact ⟨x, by simp [hx], hxk⟩

theorem upd_none {M : Int → Option Nat} {s : Int} (h : M s = none) : upd M s none = M := by
  funext t; unfold upd; split
  · rename_i e; rw [e, h]
  · rfl

/-- The world with another map in block bm. -/
def putMap (w : World) (bm : Nat) (o : Obj) : World := { w with heap := w.heap.setIfInBounds bm o }
theorem putMap_other (w : World) (bm : Nat) (o : Obj) (k : Nat) (h : k ≠ bm) : (putMap w bm o).heap[k]? = w.heap[k]? := by
  show (w.heap.setIfInBounds bm o)[k]? = _
  rw [Array.getElem?_setIfInBounds_ne (by omega)]
theorem putMap_same (w : World) (bm : Nat) (o : Obj) (h : bm < w.heap.size) : (putMap w bm o).heap[bm]? = some o := by
  show (w.heap.setIfInBounds bm o)[bm]? = _
  simp [h]
theorem below_putMap (w : World) (bm : Nat) (o : Obj) {B : Nat} (h : B ≤ bm) : Below B w (putMap w bm o) :=
  ⟨rfl, rfl, rfl, by simp [putMap], fun k hk => putMap_other w bm o k (by omega)⟩

/-- m[s] = p -/
theorem MapIs.store {w : World} {bm N : Nat} {M : Int → Option Nat} (h : MapIs w bm M N) (s : Int) (p : Nat) :
    ∃ o, (Instr.mapUpdate 73 (.map (some bm)) (.int .i64 s) (.pointer (some ⟨p, 0, none⟩))).run Trym.prog w = .ok () (putMap w bm o) ∧ MapIs (putMap w bm o) bm (upd M s (some p)) (if (M s).isSome then N else N + 1) := by
  have hlt := h.lt
  obtain ⟨es, clock, hb, hn, hh⟩ := h
  have hk : IsKey (.int .i64) (.int .i64 s) := by simp [IsKey]
  have u2 := Trym.underlying2
  rcases findNow_spec hk es.toList 0 (keys_isKey hh) with ⟨hf, hno⟩ | ⟨j, e, hf, hj, hek⟩
  · have hM : M s = none := by
      cases hM : M s with
      | none => rfl
      | some p => obtain ⟨x, hx, hxk⟩ := hh.all s p hM; exact absurd hxk (hno x hx)
    refine ⟨.map (es.push { key := .int .i64 s, val := .pointer (some ⟨p, 0, none⟩), born := clock }) (clock + 1), ?_, ?_⟩
    · simp [Instr.mapUpdate, run_underlying Trym.underlying73, Go.MapKept.run_getObj_map hb, run_checkKey u2 hk, run_findKey u2 hf, Result.andThen, Go.MapKept.run_setObj_map _ hb, putMap]
    · refine ⟨_, _, putMap_same _ _ _ hlt, ?_, ?_⟩
      · simp [hM, hn]
      · rw [Array.toList_push]; exact hh.push hno p clock
  · obtain ⟨s', p', h1, h2, h3⟩ := hh.each e (List.mem_of_getElem? hj)
    have hj' : es[j]? = some e := by rw [← Array.getElem?_toList]; exact hj
    have hjlt : j < es.size := (Array.getElem?_eq_some_iff.1 hj').1
    refine ⟨.map (es.modify j fun e => { e with key := .int .i64 s, val := .pointer (some ⟨p, 0, none⟩) }) clock, ?_, ?_⟩
    · have hs : Instr.sameBits 10000 (.int .i64 s) (.int .i64 s) = true := by simp [Instr.sameBits]
      simp [Instr.mapUpdate, run_underlying Trym.underlying73, Go.MapKept.run_getObj_map hb, run_checkKey u2 hk, run_findKey u2 hf, Result.andThen, Go.MapKept.run_setObj_map _ hb, putMap, Instr.keyThatStays, hj', hek, hs]
    · refine ⟨_, _, putMap_same _ _ _ hlt, ?_, ?_⟩
      · rw [hek] at h1; cases h1; simp [h3, hn]
      · have hsp := split_at hj
        have hm : (es.modify j fun e => { e with key := Value.int .i64 s, val := Value.pointer (some ⟨p, 0, none⟩) }).toList = es.toList.take j ++ { e with key := Value.int .i64 s, val := Value.pointer (some ⟨p, 0, none⟩) } :: es.toList.drop (j + 1) := by
          rw [Array.toList_modify, List.modify_eq_take_cons_drop (by simpa using hjlt)]
          simp only [Array.getElem_toList]
          rw [(Array.getElem?_eq_some_iff.1 hj').2]
        rw [hm]
        rw [hsp] at hh
        exact hh.set hek p

/-- delete(m, s) -/
theorem MapIs.del {w : World} {bm N : Nat} {M : Int → Option Nat} (h : MapIs w bm M N) (s : Int) (t : TypeId) :
    ∃ o, (Builtin.delete_ #[73, 2] t #[.map (some bm), .int .i64 s]).run Trym.prog w = .ok (.tuple #[]) (putMap w bm o) ∧ MapIs (putMap w bm o) bm (upd M s none) (if (M s).isSome then N - 1 else N) := by
  have hlt := h.lt
  obtain ⟨es, clock, hb, hn, hh⟩ := h
  have hk : IsKey (.int .i64) (.int .i64 s) := by simp [IsKey]
  have u2 := Trym.underlying2
  rcases findNow_spec hk es.toList 0 (keys_isKey hh) with ⟨hf, hno⟩ | ⟨j, e, hf, hj, hek⟩
  · have hM : M s = none := by
      cases hM : M s with
      | none => rfl
      | some p => obtain ⟨x, hx, hxk⟩ := hh.all s p hM; exact absurd hxk (hno x hx)
    refine ⟨.map es clock, ?_, ?_⟩
    · simp [Builtin.delete_, run_underlying Trym.underlying73, Go.MapKept.run_getObj_map hb, run_checkKey u2 hk, run_findKey u2 hf, Result.andThen, Go.MapKept.run_setObj_map _ hb, putMap]
    · refine ⟨_, _, putMap_same _ _ _ hlt, ?_, ?_⟩
      · simp [hM, hn]
      · rw [upd_none hM]; exact hh
  · obtain ⟨s', p', h1, h2, h3⟩ := hh.each e (List.mem_of_getElem? hj)
    have hj' : es[j]? = some e := by rw [← Array.getElem?_toList]; exact hj
    have hjlt : j < es.size := (Array.getElem?_eq_some_iff.1 hj').1
    refine ⟨.map (es.eraseIdxIfInBounds j) clock, ?_, ?_⟩
    · simp [Builtin.delete_, run_underlying Trym.underlying73, Go.MapKept.run_getObj_map hb, run_checkKey u2 hk, run_findKey u2 hf, Result.andThen, Go.MapKept.run_setObj_map _ hb, putMap]
    · refine ⟨_, _, putMap_same _ _ _ hlt, ?_, ?_⟩
      · rw [hek] at h1; cases h1
        rw [Array.eraseIdxIfInBounds, dif_pos hjlt, Array.size_eraseIdx, hn, h3]; rfl
      · have hsp := split_at hj
        have hm : (es.eraseIdxIfInBounds j).toList = es.toList.take j ++ es.toList.drop (j + 1) := by
          simp [Array.eraseIdxIfInBounds, hjlt, List.eraseIdx_eq_take_drop_succ]
        rw [hm]
        rw [hsp] at hh
        exact hh.drop hek

theorem del_nil (w : World) (s : Int) (t : TypeId) : (Builtin.delete_ #[73, 2] t #[.map none, .int .i64 s]).run Trym.prog w = .ok (.tuple #[]) w := by
  have hk : IsKey (.int .i64) (.int .i64 s) := by simp [IsKey]
  simp [Builtin.delete_, run_underlying Trym.underlying73, run_checkKey Trym.underlying2 hk, Result.andThen]

theorem MapIs.len {w : World} {bm N : Nat} {M : Int → Option Nat} (h : MapIs w bm M N) (t : TypeId) :
    (Builtin.len_ #[73] t #[.map (some bm)]).run Trym.prog w = .ok (.int .i64 N) w := by
  obtain ⟨es, clock, hb, hn, hh⟩ := h
  simp [Builtin.len_, run_underlying Trym.underlying73, Go.MapKept.run_getObj_map hb, Result.andThen, goInt, hn]
theorem len_nil (w : World) (t : TypeId) : (Builtin.len_ #[73] t #[.map none]).run Trym.prog w = .ok (.int .i64 0) w := by
  simp [Builtin.len_, run_underlying Trym.underlying73, Result.andThen, goInt]

end Go.Proofs.Qxb6603509aMods
