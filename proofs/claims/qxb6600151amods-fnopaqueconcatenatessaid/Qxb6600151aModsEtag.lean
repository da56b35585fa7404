/-
  THE CONTRACTS of the function that tells whether every byte may stand in an entity tag, and of its export.
-/
import Derived.Test.Qxb6600151aModsRows
import Derived.WalkKit
import Derived.WalkSpells
import Derived.WalkLawsBesides
import Derived.RowKit3
namespace Go.Proofs.Qxb6600151aMods
open Go.RowKit

/-- May the byte stand in a tag? -/
def okC (c : UInt8) : Bool := !(decide ((c.toNat : Int) < 33) || (c.toNat : Int) == 34 || (c.toNat : Int) == 127)
/-- May every byte? -/
def okL (l : List UInt8) : Bool := l.all okC

theorem ret_bool {a b : Bool} (h : a = b) : Ending.returned (.bool a) = .returned (.bool b) := by rw [h]
theorem take_snoc (s : ByteArray) (k : Nat) (h : k < s.size) : s.data.toList.take (k + 1) = s.data.toList.take k ++ [s[k]] := by
  rw [List.take_succ_eq_append_getElem (by simpa using h)]; rfl
theorem okL_snoc (l : List UInt8) (c : UInt8) : okL (l ++ [c]) = (okL l && okC c) := by simp [okL]
theorem okL_part (s : ByteArray) (k : Nat) (h : k < s.size) (hc : okC s[k] = false) : okL s.data.toList = false := by
  unfold okL
  rw [List.all_eq_false]
  exact ⟨s[k], Array.mem_def.1 (Array.getElem_mem (xs := s.data) h), by simp [hc]⟩

set_option maxHeartbeats 1000000 in
theorem tag_any (s : ByteArray) (hs : s.size ≤ maxLen) (w : World) :
    Calls Trym.prog 18 #[.string s] w fun e w' => e = .returned (.bool (okL s.data.toList)) ∧ w' = w := by
  unfold maxLen at hs
  go_enter Trym.func18, Trym.ntmps18
  go_wp2
  go_loop [3] (fun i => ∃ k : Nat, k ≤ s.size ∧ i = .int .i64 k ∧ okL (s.data.toList.take k) = true) (fun i => s.size - (intOf i).toNat)
  case atStart => exact ⟨0, Nat.zero_le _, rfl, rfl⟩
  case round =>
    obtain ⟨k, hk, rfl, hok⟩ := hrel
    have HO : Hid (okL (s.data.toList.take k) = true) := hok
    clear hok
    by_cases hlt : k < s.size
    · have hsn := okL_snoc (s.data.toList.take k) s[k]
      rw [← take_snoc s k hlt] at hsn
      have HS : Hid (okL (s.data.toList.take (k + 1)) = (okL (s.data.toList.take k) && okC s[k])) := hsn
      clear hsn
      by_cases h1 : (s[k].toNat : Int) < 33
      · have hc : okC s[k] = false := by unfold okC; simp [h1]
        have HF : Hid (okL s.data.toList = false) := okL_part s k hlt hc
        clear hc
        go_wp2
        go_ret
        exact ⟨ret_bool HF.out.symm, rfl⟩
      have d1 : decide ((s[k].toNat : Int) < 33) = false := by simpa using h1
      by_cases h2 : (s[k].toNat : Int) = 34
      · have d2 : ((s[k].toNat : Int) == 34) = true := by simp [h2]
        have hc : okC s[k] = false := by unfold okC; rw [d2]; simp
        have HF : Hid (okL s.data.toList = false) := okL_part s k hlt hc
        clear hc h2
        go_wp2
        go_ret
        exact ⟨ret_bool HF.out.symm, rfl⟩
      have d2 : ((s[k].toNat : Int) == 34) = false := by simp [h2]
      by_cases h3 : (s[k].toNat : Int) = 127
      · have d3 : ((s[k].toNat : Int) == 127) = true := by simp [h3]
        have hc : okC s[k] = false := by unfold okC; rw [d3]; simp
        have HF : Hid (okL s.data.toList = false) := okL_part s k hlt hc
        clear hc h3 h2
        go_wp2
        go_ret
        exact ⟨ret_bool HF.out.symm, rfl⟩
      · have d3 : ((s[k].toNat : Int) == 127) = false := by simp [h3]
        have hc : okC s[k] = true := by unfold okC; rw [d1, d2, d3]; rfl
        have HC : Hid (okC s[k] = true) := hc
        clear hc h3 h2
        go_wp2
        go_round
        case rel => exact ⟨k + 1, by omega, by go_num, by rw [HS.out, HO.out, HC.out]; rfl⟩
        case measure => simp [intOf]; omega
    · have hall : s.data.toList.take k = s.data.toList := List.take_of_length_le (by simp; omega)
      have hO := HO.out
      rw [hall] at hO
      have HF : Hid (okL s.data.toList = true) := hO
      clear hO HO hall
      go_wp2
      go_ret
      exact ⟨ret_bool HF.out.symm, rfl⟩

set_option maxHeartbeats 1000000 in
/-- The export. -/
theorem zztag_any (s : ByteArray) (hs : s.size ≤ maxLen) (w : World) :
    Calls Trym.prog 15 #[.string s] w fun e w' => e = .returned (.bool (okL s.data.toList)) ∧ w' = w := by
  go_enter Trym.func15, Trym.ntmps15
  go_wp2_with fail
  refine (tag_any s hs _).mono ?_
  rintro e _ ⟨rfl, rfl⟩
  go_wp2_with fail
  go_ret
  exact ⟨rfl, rfl⟩
end Go.Proofs.Qxb6600151aMods
