/-
  THE CONTRACTS of ZZput, of the readers zzBoolAt, zzStringAt, zzBytesAt, of zzCloneBytesList and of zzRow.
-/
import Derived.Test.Qxb6603509aModsPut2
namespace Go.Proofs.Qxb6603509aMods
open Go.RowKit

theorem put_meth (w : World) (b : Nat) (M : Int → Option Nat) (N : Nat) (y : Int) (sz : Nat → Int) (h : BufAt w b M N y sz) (y0 : -4398046511104 ≤ y) (y1 : y ≤ 4398046511104) (s : Int) (r : Option Nat) (hr : ∀ p, r = some p → p ≠ b ∧ RowAt w p (sz p)) :
    Calls Trym.prog 51 #[.pointer (some ⟨b, 0, none⟩), .int .i64 s, ptrOf r] w fun e w' => e = .returned (.tuple #[]) ∧ BufAt w' b (upd M s r) (cntP (M s) r N) (y - osz sz (M s) + osz sz r) sz ∧ Kept b w w' ∧ Below b w w' := by
  cases r with
  | none =>
    cases hs : M s with
    | none =>
      have := put_nn w b M N y sz h s hs
      simpa [ptrOf, osz, cntP] using this
    | some q =>
      have := put_sn w b M N y sz h y0 y1 s q hs
      simpa [ptrOf, osz, cntP] using this
  | some p =>
    obtain ⟨h1, h2⟩ := hr p rfl
    cases hs : M s with
    | none =>
      rcases h.map with ⟨c0, hM, hN⟩ | ⟨bm, c0, hbm, hm⟩
      · have := put_ns0 w b M N y sz h c0 hM hN y0 y1 s p h1 h2
        simpa [ptrOf, osz, cntP] using this
      · have := put_ns w b bm M N y sz h c0 hbm hm y0 y1 s p hs h1 h2
        simpa [ptrOf, osz, cntP] using this
    | some q =>
      have := put_ss w b M N y sz h y0 y1 s q p hs h1 h2
      simpa [ptrOf, osz, cntP] using this

set_option maxHeartbeats 1000000 in
/-- THE CONTRACT OF ZZput. -/
theorem put_any (w : World) (b : Nat) (M : Int → Option Nat) (N : Nat) (y : Int) (sz : Nat → Int) (h : BufAt w b M N y sz) (y0 : -4398046511104 ≤ y) (y1 : y ≤ 4398046511104) (s : Int) (r : Option Nat) (hr : ∀ p, r = some p → p ≠ b ∧ RowAt w p (sz p)) :
    Calls Trym.prog 17 #[.pointer (some ⟨b, 0, none⟩), .int .i64 s, ptrOf r] w fun e w' => e = .returned (.tuple #[]) ∧ BufAt w' b (upd M s r) (cntP (M s) r N) (y - osz sz (M s) + osz sz r) sz ∧ Kept b w w' ∧ Below b w w' := by
  have H := put_meth w b M N y sz h y0 y1 s r hr
  generalize ptrOf r = v at *
  have HH : Hid (Calls Trym.prog 51 #[.pointer (some ⟨b, 0, none⟩), .int .i64 s, v] w fun e w' => e = .returned (.tuple #[]) ∧ BufAt w' b (upd M s r) (cntP (M s) r N) (y - osz sz (M s) + osz sz r) sz ∧ Kept b w w' ∧ Below b w w') := H
  clear H hr h
  go_enter Trym.func17, Trym.ntmps17
  go_wp2_with fail
  refine HH.out.mono ?_
  rintro e w' ⟨rfl, h1, h2, h3⟩
  go_wp2_with fail
  go_end0
  exact ⟨rfl, h1, h2, h3⟩

set_option maxHeartbeats 1000000 in
/-- zzBoolAt -/
theorem boolAt_any (w : World) (a : Option Addr) (n cap : Nat) (z : Nat → Bool) (h : SlIn w a n cap (fun i => .bool (z i))) (_hn : n ≤ 1048576) (k : Nat) (_hk : k ≤ 1048576) :
    Calls Trym.prog 49 #[.slice a n cap, .int .i64 k] w fun e w' => e = .returned (.bool (if k < n then z k else false)) ∧ w' = w := by
  by_cases hlt : k < n
  · rw [if_pos hlt]
    obtain ⟨b, off, rfl, hb, hc⟩ := h.pos hlt
    have hck := hc k hlt
    clear hc h
    go_enter Trym.func49, Trym.ntmps49
    go_wp2
    go_ret
    exact ⟨rfl, rfl⟩
  · rw [if_neg hlt]
    clear h
    go_enter Trym.func49, Trym.ntmps49
    go_wp2
    go_ret
    exact ⟨rfl, rfl⟩
set_option maxHeartbeats 1000000 in
/-- zzStringAt -/
theorem stringAt_any (w : World) (a : Option Addr) (n cap : Nat) (z : Nat → ByteArray) (h : SlIn w a n cap (fun i => .string (z i))) (_hn : n ≤ 1048576) (k : Nat) (_hk : k ≤ 1048576) :
    Calls Trym.prog 50 #[.slice a n cap, .int .i64 k] w fun e w' => (∃ s, e = .returned (.string s)) ∧ w' = w := by
  by_cases hlt : k < n
  · obtain ⟨b, off, rfl, hb, hc⟩ := h.pos hlt
    have hck := hc k hlt
    clear hc h
    go_enter Trym.func50, Trym.ntmps50
    go_wp2
    go_ret
    exact ⟨⟨_, rfl⟩, rfl⟩
  · clear h
    go_enter Trym.func50, Trym.ntmps50
    go_wp2
    go_ret
    exact ⟨⟨_, rfl⟩, rfl⟩

/-- A slice of bytes of n elements that can be read. -/
def RdB (w : World) (v : Value) (n : Nat) : Prop := ∃ (a : Option Addr) (cap : Nat) (z : Nat → Int), v = .slice a n cap ∧ SlIn w a n cap (fun j => .int .u8 (z j))
theorem RdB.below {w w' : World} {v : Value} {n : Nat} (h : RdB w v n) (hb : Below w.heap.size w w') : RdB w' v n := by
  obtain ⟨a, cap, z, rfl, hs⟩ := h
  exact ⟨a, cap, z, rfl, hs.below hb⟩
theorem RdB.nil (w : World) : RdB w (.slice none 0 0) 0 := ⟨none, 0, fun _ => 0, rfl, SlIn.nil _ _⟩

/-- A slice of m slices of bytes, each of which can be read; len: their lengths. -/
def RdBs (w : World) (a : Option Addr) (m cap : Nat) (len : Nat → Nat) : Prop := ∃ u, SlIn w a m cap u ∧ ∀ i, i < m → RdB w (u i) (len i)
theorem RdBs.below {w w' : World} {a : Option Addr} {m cap : Nat} {len : Nat → Nat} (h : RdBs w a m cap len) (hb : Below w.heap.size w w') : RdBs w' a m cap len := by
  obtain ⟨u, h1, h2⟩ := h
  exact ⟨u, h1.below hb, fun i hi => (h2 i hi).below hb⟩

theorem cloneB_any (w : World) (v : Value) (n : Nat) (hn : n ≤ 1048576) (h : RdB w v n) :
    Calls Trym.prog 26 #[v] w fun e w' => ∃ v', e = .returned v' ∧ RdB w' v' n ∧ Below w.heap.size w w' := by
  obtain ⟨a, cap, z, rfl, hs⟩ := h
  refine (cloneBytes_any a n cap z hn w hs).mono ?_
  rintro e w' ⟨a', cap', rfl, h1, h2⟩
  exact ⟨_, rfl, ⟨a', cap', z, rfl, h1⟩, h2⟩

set_option maxHeartbeats 1000000 in
/-- zzBytesAt -/
theorem bytesAt_any (w : World) (a : Option Addr) (m cap : Nat) (len : Nat → Nat) (h : RdBs w a m cap len) (_hm : m ≤ 1048576) (k : Nat) (_hk : k ≤ 1048576) :
    Calls Trym.prog 19 #[.slice a m cap, .int .i64 k] w fun e w' => ∃ v, e = .returned v ∧ RdB w v (if k < m then len k else 0) ∧ w' = w := by
  obtain ⟨u, hs, hu⟩ := h
  by_cases hlt : k < m
  · rw [if_pos hlt]
    obtain ⟨b, off, rfl, hb, hc⟩ := hs.pos hlt
    have hck := hc k hlt
    have hR := hu k hlt
    obtain ⟨a', cap', z, hv, hs'⟩ := hR
    rw [hv] at hck
    have hfin : RdB w (.slice a' (len k) cap') (len k) := ⟨a', cap', z, rfl, hs'⟩
    clear hc hs hu hs' hv
    go_enter Trym.func19, Trym.ntmps19
    go_wp2
    go_ret
    exact ⟨_, rfl, hfin, rfl⟩
  · rw [if_neg hlt]
    clear hs hu
    go_enter Trym.func19, Trym.ntmps19
    go_wp2
    go_ret
    exact ⟨_, rfl, RdB.nil _, rfl⟩

/-- Where a clone lies: nowhere, or in a block of its own. -/
def Lies (B : Nat) (v : Value) (n : Nat) : Prop := v = .slice none 0 0 ∨ ∃ c, B ≤ c ∧ v = .slice (some ⟨c, 0, none⟩) n n

theorem cloneB_at (w : World) (v : Value) (n : Nat) (hn : n ≤ 1048576) (h : RdB w v n) :
    Calls Trym.prog 26 #[v] w fun e w' => ∃ v', e = .returned v' ∧ RdB w' v' n ∧ Lies w.heap.size v' n ∧ Below w.heap.size w w' := by
  obtain ⟨a, cap, z, rfl, hs⟩ := h
  rcases hs with ⟨rfl, rfl, rfl⟩ | ⟨x, rfl, rfl⟩ | ⟨b, off, rfl, hb, hc⟩
  · refine (cloneBytes_nil w).mono ?_
    rintro e w' ⟨rfl, rfl⟩
    exact ⟨_, rfl, RdB.nil _, .inl rfl, Below.refl _ _⟩
  · refine (cloneBytes_empty x cap w).mono ?_
    rintro e w' ⟨rfl, hb⟩
    exact ⟨_, rfl, ⟨_, _, z, rfl, .inr (.inl ⟨_, rfl, rfl⟩)⟩, .inr ⟨_, Nat.le_refl _, rfl⟩, hb⟩
  · refine (cloneBytes_row b off n cap z hn w hb hc).mono ?_
    rintro e w' ⟨rfl, hr, hb, -⟩
    exact ⟨_, rfl, ⟨_, _, z, rfl, SlIn.of_row hr⟩, .inr ⟨_, Nat.le_refl _, rfl⟩, hb⟩

theorem RdB.setOther {w : World} {v u : Value} {n B k : Nat} (h : RdB w v n) (hl : Lies (B + 1) v n) : RdB (w.setCell ⟨B, k, none⟩ u) v n := by
  obtain ⟨a, cap, z, hv, hs⟩ := h
  refine ⟨a, cap, z, hv, ?_⟩
  rcases hs with h | h | ⟨b, off, ha, hb, hc⟩
  · exact .inl h
  · exact .inr (.inl h)
  · refine .inr (.inr ⟨b, off, ha, by simpa [World.setCell] using hb, fun i hi => ?_⟩)
    have hbB : b ≠ B := by
      rcases hl with hl | ⟨c, hc1, hl⟩
      · rw [hv] at hl; subst ha; cases hl
      · rw [hv, ha] at hl; cases hl; omega
    rw [World.cell?_of_block (w := w) (Below.heap_setCell w ⟨B, k, none⟩ u b hbB)]
    exact hc i hi

theorem info40 : (Trym.prog.info? 40).map (fun i => (i.zero, i.size, i.bytes)) = some (some (.slice none 0 0), 1, 24) := by kernel_rfl

/-- u, but v at k. -/
def setAt (u : Nat → Value) (k : Nat) (v : Value) (i : Nat) : Value := if i = k then v else u i
theorem part_setAt {w : World} {b : Nat} {t : TypeId} {n k : Nat} {u : Nat → Value} {z : Value} (h : w.rowIs b t n (part k u z)) (v : Value) : (w.setCell ⟨b, k, none⟩ v).rowIs b t n (part (k + 1) (setAt u k v) z) := by
  refine (h.set k v).congr fun j _ => ?_
  unfold part setAt
  by_cases e : j = k
  · subst e; simp
  · rw [if_neg e, if_neg e]
    by_cases l : j < k
    · rw [if_pos l, if_pos (by omega)]
    · rw [if_neg l, if_neg (by omega)]

set_option maxHeartbeats 2000000 in
theorem cloneList_row (b off n cap : Nat) (u : Nat → Value) (len : Nat → Nat) (hn : n ≤ 1048576) (hlen : ∀ i, i < n → len i ≤ 1048576) (w : World) (hb : b < w.heap.size) (hc : ∀ i, i < n → w.cell? ⟨b, off + i, none⟩ = some (u i)) (hu : ∀ i, i < n → RdB w (u i) (len i)) :
    Calls Trym.prog 12 #[.slice (some ⟨b, off, none⟩) n cap] w fun e w' => ∃ u', e = .returned (.slice (some ⟨w.heap.size, 0, none⟩) n n) ∧ w'.rowIs w.heap.size 40 n u' ∧ (∀ i, i < n → RdB w' (u' i) (len i)) ∧ Below w.heap.size w w' := by
  have hnil := fun w => Lib.run_eql_slice_nil (P := Trym.prog) w 23 40 (some ⟨b, off, none⟩) n cap 0 0 Trym.underlying23
  have hmk := run_make_row' (P := Trym.prog) 23 40 (.slice none 0 0) 24 Trym.underlying23 info40 rfl .i64 .i64 n (by omega) (by omega)
  have HC : Hid (∀ i, i < n → w.cell? ⟨b, off + i, none⟩ = some (u i)) := hc
  have HU : Hid (∀ i, i < n → RdB w (u i) (len i)) := hu
  have HLn : Hid (∀ i, i < n → len i ≤ 1048576) := hlen
  clear hc hu hlen
  go_enter Trym.func12, Trym.ntmps12
  go_wp2
  go_loopw [4] (fun i wr => ∃ (k : Nat) (u' : Nat → Value), k ≤ n ∧ i = .int .i64 k ∧ wr.rowIs w.heap.size 40 n (part k u' (.slice none 0 0)) ∧ (∀ i, i < k → RdB wr (u' i) (len i) ∧ Lies (w.heap.size + 1) (u' i) (len i)) ∧ Below w.heap.size w wr) (fun i _ => n - (intOf i).toNat)
  case atStart =>
    exact ⟨0, fun _ => .slice none 0 0, Nat.zero_le _, rfl, part_none _ (World.rowIs_made w _ n 40), fun i hi => absurd hi (by omega), (Below.refl _ _).alloc (Nat.le_refl _) _⟩
  case round =>
    obtain ⟨k, u', hk, rfl, hrow, hall, hbel⟩ := hrel
    by_cases hlt : k < n
    · have hck : wr.cell? ⟨b, off + k, none⟩ = some (u k) := (hbel.cell (p := ⟨b, off + k, none⟩) hb).trans (HC.out k hlt)
      have hRk : RdB w (u k) (len k) := HU.out k hlt
      have hRk' : RdB wr (u k) (len k) := by
        obtain ⟨a, c, z, hv, hs⟩ := hRk
        exact ⟨a, c, z, hv, hs.below hbel⟩
      have hlk := HLn.out k hlt
      obtain ⟨a0, c0, z0, hv0, hs0⟩ := hRk'
      rw [hv0] at hck
      have hR0 : RdB wr (.slice a0 (len k) c0) (len k) := ⟨a0, c0, z0, rfl, hs0⟩
      have HA : Hid (∀ i, i < k → RdB wr (u' i) (len i) ∧ Lies (w.heap.size + 1) (u' i) (len i)) := hall
      clear hall hRk hs0 hv0 hmk hnil
      go_wp2_with fail
      refine (cloneB_at wr _ (len k) hlk hR0).mono ?_
      rintro e w2 ⟨v', rfl, hR2, hL2, hb2⟩
      have hrow2 : w2.rowIs w.heap.size 40 n (part k u' (.slice none 0 0)) := hrow.of_block (hb2.block _ hrow.lt)
      have hold := hrow2.cell hlt
      have hfz := hrow2.frozen k
      have hz2 := hrow.lt
      obtain ⟨a2, c2, z2, hv2, hs2⟩ := hR2
      subst hv2
      have hR2 : RdB w2 (.slice a2 (len k) c2) (len k) := ⟨a2, c2, z2, rfl, hs2⟩
      have hL2' : Lies (w.heap.size + 1) (.slice a2 (len k) c2) (len k) := by
        rcases hL2 with h | ⟨c, h1, h2⟩
        · exact .inl h
        · exact .inr ⟨c, by omega, h2⟩
      have HR : Hid (World.rowIs (w2.setCell ⟨w.heap.size, k, none⟩ (.slice a2 (len k) c2)) w.heap.size 40 n (part (k + 1) (setAt u' k (.slice a2 (len k) c2)) (.slice none 0 0))) := part_setAt hrow2 _
      have HB : Hid (Below w.heap.size w (w2.setCell ⟨w.heap.size, k, none⟩ (.slice a2 (len k) c2))) := (hbel.trans (hb2.mono hbel.size)).setCell (p := ⟨w.heap.size, k, none⟩) (Nat.le_refl _) _
      have HA2 : Hid (∀ i, i < k + 1 → RdB (w2.setCell ⟨w.heap.size, k, none⟩ (.slice a2 (len k) c2)) (setAt u' k (.slice a2 (len k) c2) i) (len i) ∧ Lies (w.heap.size + 1) (setAt u' k (.slice a2 (len k) c2) i) (len i)) := by
        intro i hi
        unfold setAt
        by_cases e : i = k
        · subst e; rw [if_pos rfl]; exact ⟨hR2.setOther hL2', hL2'⟩
        · rw [if_neg e]
          obtain ⟨g1, g2⟩ := HA.out i (by omega)
          exact ⟨(g1.below hb2).setOther g2, g2⟩
      clear hrow hrow2 hs2 hR2 hL2 hL2'
      go_wp2
      go_roundw
      case rel => exact ⟨k + 1, _, by omega, by go_num, HR.out, HA2.out, HB.out⟩
      case measure => simp [intOf]; omega
    · have : k = n := by omega
      subst this
      have HA : Hid (∀ i, i < k → RdB wr (u' i) (len i) ∧ Lies (w.heap.size + 1) (u' i) (len i)) := hall
      clear hall
      go_wp2
      go_ret
      exact ⟨u', rfl, part_all hrow, fun i hi => (HA.out i hi).1, hbel⟩

set_option maxHeartbeats 1000000 in
theorem cloneList_nil (w : World) : Calls Trym.prog 12 #[.slice none 0 0] w fun e w' => e = .returned (.slice none 0 0) ∧ w' = w := by
  have hnil := fun w => Lib.run_eql_slice_nil (P := Trym.prog) w 23 40 none 0 0 0 0 Trym.underlying23
  go_enter Trym.func12, Trym.ntmps12
  go_wp2
  go_ret
  exact ⟨rfl, rfl⟩
set_option maxHeartbeats 1000000 in
theorem cloneList_empty (x : Addr) (cap : Nat) (w : World) :
    Calls Trym.prog 12 #[.slice (some x) 0 cap] w fun e w' => e = .returned (.slice (some ⟨w.heap.size, 0, none⟩) 0 0) ∧ Below w.heap.size w w' := by
  have hnil := fun w => Lib.run_eql_slice_nil (P := Trym.prog) w 23 40 (some x) 0 cap 0 0 Trym.underlying23
  have hmk : ∀ w, (Instr.makeSlice 23 (.int .i64 0) (.int .i64 0)).run Trym.prog w = .ok (.slice (some ⟨w.heap.size, 0, none⟩) 0 0) (w.alloc (.cells (madeCells #[.slice none 0 0] 0) 40)) := fun w => run_make_row' (P := Trym.prog) 23 40 (.slice none 0 0) 24 Trym.underlying23 info40 rfl .i64 .i64 0 (by omega) (by omega) w
  go_enter Trym.func12, Trym.ntmps12
  go_wp2
  go_loopw [4] (fun i wr => i = .int .i64 0 ∧ Below w.heap.size w wr) (fun _ _ => 0)
  case atStart => exact ⟨rfl, (Below.refl _ _).alloc (Nat.le_refl _) _⟩
  case round =>
    obtain ⟨rfl, hbel⟩ := hrel
    go_wp2
    go_ret
    exact ⟨rfl, hbel⟩

/-- THE CONTRACT OF zzCloneBytesList. -/
theorem cloneList_any (a : Option Addr) (n cap : Nat) (len : Nat → Nat) (hn : n ≤ 1048576) (hlen : ∀ i, i < n → len i ≤ 1048576) (w : World) (h : RdBs w a n cap len) :
    Calls Trym.prog 12 #[.slice a n cap] w fun e w' => ∃ a' cap', e = .returned (.slice a' n cap') ∧ RdBs w' a' n cap' len ∧ Below w.heap.size w w' := by
  obtain ⟨u, hs, hu⟩ := h
  rcases hs with ⟨rfl, rfl, rfl⟩ | ⟨x, rfl, rfl⟩ | ⟨b, off, rfl, hb, hc⟩
  · refine (cloneList_nil w).mono ?_
    rintro e w' ⟨rfl, rfl⟩
    exact ⟨_, _, rfl, ⟨u, SlIn.nil _ _, fun i hi => absurd hi (by omega)⟩, Below.refl _ _⟩
  · refine (cloneList_empty x cap w).mono ?_
    rintro e w' ⟨rfl, hb⟩
    exact ⟨_, _, rfl, ⟨u, .inr (.inl ⟨_, rfl, rfl⟩), fun i hi => absurd hi (by omega)⟩, hb⟩
  · refine (cloneList_row b off n cap u len hn hlen w hb hc hu).mono ?_
    rintro e w' ⟨u', rfl, hr, hall, hb⟩
    exact ⟨_, _, rfl, ⟨u', SlIn.of_row hr, hall⟩, hb⟩
end Go.Proofs.Qxb6603509aMods
