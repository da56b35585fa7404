/-
  HOW A SLICE THAT CAME IN IS READ: from the row's reading to 'SlIn', 'RdBs'.
-/
import Derived.Test.Qxb6603509aModsScr
import Derived.ProofKit
import Derived.OpenShut
import Derived.SliceStrings
import Derived.Deep.Matrix
import Derived.Deep.Grids
namespace Go.Proofs.Qxb6603509aMods
open Go.ChangeShapes Go.WideShapes Go.ChangeAt Go.RowKit Go.Deep

theorem slIn_of_cells {w : World} {x : Addr} {len cap : Nat} {f : Nat → Value} (h : ∀ i, i < len → w.cell? (x.add i) = some (f i)) : SlIn w (some x) len cap f := by
  rcases Nat.eq_zero_or_pos len with h0 | h0
  · exact .inr (.inl ⟨x, rfl, h0⟩)
  · obtain ⟨b, off, spot⟩ := x
    have hspot : spot = none := by simpa [Addr.add] using World.cell?_spot (h 0 h0)
    subst hspot
    have hcell : ∀ i, i < len → w.cell? ⟨b, off + i, none⟩ = some (f i) := fun i hi => by
      rw [← Go.WideShapes.add_plain]; exact h i hi
    refine .inr (.inr ⟨b, off, rfl, ?_, hcell⟩)
    obtain ⟨c, t, fz, hblk⟩ := cells_of_cell (hcell 0 h0)
    exact (Array.getElem?_eq_some_iff.1 hblk).1

section
variable {H : Type} {enc : TypeId × Value → H} {w : World}

theorem open22 {a : Option Addr} {len cap fuel : Nat} {x : DataW H × List MemPlace} (hf : DataW.trod enc Trym.prog w 0 (fun _ => true) true fuel 22 [.slice a len cap] = some x) : ∃ z : Nat → Int, SlIn w a len cap (fun i => .int .i64 (z i)) := by
  rcases open_ints Trym.underlying22 Trym.underlying2 (by kernel_rfl) hf with ⟨hcs, _⟩ | ⟨y, l, c, zs, hcs, _, hl, hm, hz, _, hcell, hwz⟩
  · simp at hcs
    obtain ⟨rfl, rfl, rfl⟩ := hcs
    exact ⟨fun _ => 0, SlIn.nil _ _⟩
  · simp at hcs
    obtain ⟨rfl, rfl, rfl⟩ := hcs
    refine ⟨fun i => zs.getD i 0, slIn_of_cells fun i hi => hcell i ?_⟩
    simp at hz; omega

theorem open24 {a : Option Addr} {len cap fuel : Nat} {x : DataW H × List MemPlace} (hf : DataW.trod enc Trym.prog w 0 (fun _ => true) true fuel 24 [.slice a len cap] = some x) : ∃ z : Nat → ByteArray, SlIn w a len cap (fun i => .string (z i)) := by
  rcases open_strings Trym.underlying24 Trym.underlying9 (by kernel_rfl) hf with ⟨hcs, _⟩ | ⟨y, l, c, ss, hcs, _, hl, hm, hz, _, hcell, _⟩
  · simp at hcs
    obtain ⟨rfl, rfl, rfl⟩ := hcs
    exact ⟨fun _ => ByteArray.empty, SlIn.nil _ _⟩
  · simp at hcs
    obtain ⟨rfl, rfl, rfl⟩ := hcs
    refine ⟨fun i => ss.getD i ByteArray.empty, slIn_of_cells fun i hi => hcell i ?_⟩
    simp at hz; omega

theorem open23 {a : Option Addr} {len cap fuel : Nat} {x : DataW H × List MemPlace} (hf : DataW.trod enc Trym.prog w 0 (fun _ => true) true fuel 23 [.slice a len cap] = some x) : ∃ ln : Nat → Nat, RdBs w a len cap ln := by
  rcases open_int_rows Trym.underlying23 Trym.underlying40 Trym.underlying5 (by kernel_rfl) (by kernel_rfl) hf with ⟨hcs, _⟩ | ⟨y, l, c, A, L, C, Z, hcs, _, hl, hm, _, hr⟩
  · simp at hcs
    obtain ⟨rfl, rfl, rfl⟩ := hcs
    exact ⟨fun _ => 0, fun _ => .slice none 0 0, SlIn.nil _ _, fun i hi => absurd hi (by omega)⟩
  · simp at hcs
    obtain ⟨rfl, rfl, rfl⟩ := hcs
    refine ⟨L, fun i => .slice (A i) (L i) (C i), slIn_of_cells fun i hi => (hr i (by omega)).1, fun i hi => ?_⟩
    obtain ⟨h1, h2, h3, h4, h5, h6, h7⟩ := hr i (by omega)
    refine ⟨A i, C i, fun j => (Z i).getD j 0, rfl, ?_⟩
    cases hA : A i with
    | none =>
      have := h6 hA
      have h0 : L i = 0 := by omega
      rw [h0, this]; exact SlIn.nil _ _
    | some a' => exact slIn_of_cells fun j hj => (h7 a' hA).2 j (by omega)

theorem open25 {a : Option Addr} {len cap fuel : Nat} {x : DataW H × List MemPlace} (hf : DataW.trod enc Trym.prog w 0 (fun _ => true) true fuel 25 [.slice a len cap] = some x) : ∃ z : Nat → Bool, SlIn w a len cap (fun i => .bool (z i)) := by
  rcases open_bools Trym.underlying25 Trym.underlying4 (by kernel_rfl) hf with ⟨hcs, _⟩ | ⟨y, l, c, B, hcs, _, hl, hm, _, hr⟩
  · simp at hcs
    obtain ⟨rfl, rfl, rfl⟩ := hcs
    exact ⟨fun _ => false, SlIn.nil _ _⟩
  · simp at hcs
    obtain ⟨rfl, rfl, rfl⟩ := hcs
    exact ⟨B, slIn_of_cells fun i hi => hr i (by omega)⟩

theorem open40 {a : Option Addr} {len cap fuel : Nat} {x : DataW H × List MemPlace} (hf : DataW.trod enc Trym.prog w 0 (fun _ => true) true fuel 40 [.slice a len cap] = some x) : ∃ z : Nat → Int, SlIn w a len cap (fun i => .int .u8 (z i)) := by
  rcases open_ints Trym.underlying40 Trym.underlying5 (by kernel_rfl) hf with ⟨hcs, _⟩ | ⟨y, l, c, zs, hcs, _, hl, hm, hz, _, hcell, hwz⟩
  · simp at hcs
    obtain ⟨rfl, rfl, rfl⟩ := hcs
    exact ⟨fun _ => 0, SlIn.nil _ _⟩
  · simp at hcs
    obtain ⟨rfl, rfl, rfl⟩ := hcs
    refine ⟨fun i => zs.getD i 0, slIn_of_cells fun i hi => hcell i ?_⟩
    simp at hz; omega
theorem in22 {a : Option Addr} {len cap : Nat} {d : DataW H} {p : List MemPlace} (h : DataW.Trod enc Trym.prog w 0 (fun _ => true) true 22 (.slice a len cap) d p) : ∃ z : Nat → Int, SlIn w a len cap (fun i => .int .i64 (z i)) := by
  obtain ⟨fuel, hf⟩ := h
  exact open22 (by simpa [Value.cells] using hf)
theorem in23 {a : Option Addr} {len cap : Nat} {d : DataW H} {p : List MemPlace} (h : DataW.Trod enc Trym.prog w 0 (fun _ => true) true 23 (.slice a len cap) d p) : ∃ ln : Nat → Nat, RdBs w a len cap ln := by
  obtain ⟨fuel, hf⟩ := h
  exact open23 (by simpa [Value.cells] using hf)
theorem in24 {a : Option Addr} {len cap : Nat} {d : DataW H} {p : List MemPlace} (h : DataW.Trod enc Trym.prog w 0 (fun _ => true) true 24 (.slice a len cap) d p) : ∃ z : Nat → ByteArray, SlIn w a len cap (fun i => .string (z i)) := by
  obtain ⟨fuel, hf⟩ := h
  exact open24 (by simpa [Value.cells] using hf)
theorem in25 {a : Option Addr} {len cap : Nat} {d : DataW H} {p : List MemPlace} (h : DataW.Trod enc Trym.prog w 0 (fun _ => true) true 25 (.slice a len cap) d p) : ∃ z : Nat → Bool, SlIn w a len cap (fun i => .bool (z i)) := by
  obtain ⟨fuel, hf⟩ := h
  exact open25 (by simpa [Value.cells] using hf)
theorem in40 {a : Option Addr} {len cap : Nat} {d : DataW H} {p : List MemPlace} (h : DataW.Trod enc Trym.prog w 0 (fun _ => true) true 40 (.slice a len cap) d p) : ∃ z : Nat → Int, SlIn w a len cap (fun i => .int .u8 (z i)) := by
  obtain ⟨fuel, hf⟩ := h
  exact open40 (by simpa [Value.cells] using hf)
end
end Go.Proofs.Qxb6603509aMods
