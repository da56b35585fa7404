/-
  THE WALKS of 'FnOpaqueConcatenates' and 'FnOpaqueOneByteIsEtagc'.
-/
import Derived.Test.Qxb6600151aModsEtag
import Derived.Laws.BytesArg
namespace Go.Proofs.Qxb6600151aMods
open Go.RowKit

theorem okL_append (a b : List UInt8) : okL (a ++ b) = (okL a && okL b) := by simp [okL]

set_option maxHeartbeats 1000000 in
theorem zzB_yes (a b : ByteArray) (ha : a.size ≤ 1048576) (hb : b.size ≤ 1048576) (hab : a.size + b.size ≤ 1048576) (w : World) :
    Calls Trym.prog 16 #[.string a, .string b] w fun e w' => e = .returned (.bool true) ∧ w' = w := by
  have h1 : (a.size : Int) + (b.size : Int) ≤ 1048576 := by omega
  go_enter Trym.func16, Trym.ntmps16
  go_wp2
  go_ret
  exact ⟨rfl, rfl⟩
set_option maxHeartbeats 1000000 in
theorem zzB_no (a b : ByteArray) (ha : a.size ≤ maxLen) (hb : b.size ≤ maxLen) (hab : 1048576 < a.size + b.size) (w : World) :
    Calls Trym.prog 16 #[.string a, .string b] w fun e w' => e = .returned (.bool false) ∧ w' = w := by
  unfold maxLen at ha hb
  by_cases h1 : 1048576 < a.size
  · go_enter Trym.func16, Trym.ntmps16
    go_wp2
    go_ret
    exact ⟨rfl, rfl⟩
  by_cases h2 : 1048576 < b.size
  · go_enter Trym.func16, Trym.ntmps16
    go_wp2
    go_ret
    exact ⟨rfl, rfl⟩
  · have h3 : (1048576 : Int) < (a.size : Int) + (b.size : Int) := by omega
    go_enter Trym.func16, Trym.ntmps16
    go_wp2
    go_ret
    exact ⟨rfl, rfl⟩

theorem tag_to (s : ByteArray) (x : Bool) (hx : okL s.data.toList = x) (hs : s.size ≤ maxLen) (w : World) :
    Calls Trym.prog 15 #[.string s] w fun e w' => e = .returned (.bool x) ∧ w' = w := by
  subst hx; exact zztag_any s hs w
theorem okL_cat (a b : ByteArray) (x y : Bool) (hx : okL a.data.toList = x) (hy : okL b.data.toList = y) : okL (a ++ b).data.toList = (x && y) := by
  rw [ByteArray.data_append, Array.toList_append, okL_append, hx, hy]

set_option maxHeartbeats 1000000 in
theorem cat_main (a0 : ByteArray) (a1 : ByteArray) (h : a0.size + a1.size ≤ 1048576) (h1 : a0.size ≤ 524288) (h2 : a1.size ≤ 524288) (x y : Bool) (hx : Hid (okL a0.data.toList = x)) (hy : Hid (okL a1.data.toList = y)) (w : World) :
    Calls Trym.prog 7 #[.string a0, .string a1] w fun e w' => e = .returned (.bool true) ∧ Grown w w' := by
  have hs : (a0 ++ a1).size ≤ maxLen := by rw [ByteArray.size_append]; unfold maxLen; omega
  have hs0 : a0.size ≤ maxLen := by unfold maxLen; omega
  have hs1 : a1.size ≤ maxLen := by unfold maxLen; omega
  cases x <;> cases y
  all_goals
    go_enter Trym.func7, Trym.ntmps7
    go_wp2_with fail
    refine (zzB_yes a0 a1 (by omega) (by omega) (by omega) _).mono ?_
    rintro e _ ⟨rfl, rfl⟩
    go_wp2_with fail
    refine (tag_to _ true rfl (by decide) _).mono ?_
    rintro e _ ⟨rfl, rfl⟩
    go_wp2_with fail
    refine (tag_to (a0 ++ a1) _ (okL_cat a0 a1 _ _ hx.out hy.out) hs _).mono ?_
    rintro e _ ⟨rfl, rfl⟩
    go_wp2_with fail
    refine (tag_to a0 _ hx.out hs0 _).mono ?_
    rintro e _ ⟨rfl, rfl⟩
    go_wp2_with (go_at_call 15; refine (tag_to a1 _ hy.out hs1 _).mono ?_; rintro e _ ⟨rfl, rfl⟩)
    go_ret
    exact ⟨rfl, Grown.refl _⟩

set_option maxHeartbeats 1000000 in
theorem cat_walk (a0 : ByteArray) (a1 : ByteArray) (w0 : a0.size ≤ maxLen) (w1 : a1.size ≤ maxLen) (w : World) :
    Calls Trym.prog 7 #[.string a0, .string a1] w fun e w' => e = .returned (.bool true) ∧ Grown w w' := by
  by_cases h : 1048576 < a0.size + a1.size
  · go_enter Trym.func7, Trym.ntmps7
    go_wp2_with fail
    refine (zzB_no a0 a1 w0 w1 h _).mono ?_
    rintro e _ ⟨rfl, rfl⟩
    go_wp2_with fail
    go_ret
    exact ⟨rfl, Grown.refl _⟩
  by_cases h1 : 524288 < a0.size
  · go_enter Trym.func7, Trym.ntmps7
    go_wp2_with fail
    refine (zzB_yes a0 a1 (by omega) (by omega) (by omega) _).mono ?_
    rintro e _ ⟨rfl, rfl⟩
    go_wp2_with fail
    go_ret
    exact ⟨rfl, Grown.refl _⟩
  by_cases h2 : 524288 < a1.size
  · go_enter Trym.func7, Trym.ntmps7
    go_wp2_with fail
    refine (zzB_yes a0 a1 (by omega) (by omega) (by omega) _).mono ?_
    rintro e _ ⟨rfl, rfl⟩
    go_wp2_with fail
    go_ret
    exact ⟨rfl, Grown.refl _⟩
  exact cat_main a0 a1 (by omega) (by omega) (by omega) _ _ rfl rfl w

/-! ### One byte -/
theorem one_str (a : Int) (h0 : 0 ≤ a) (h1 : a ≤ 255) : okL (strOfNums [a]).data.toList = !(decide (a < 33) || a == 34 || a == 127) ∧ (strOfNums [a]).size ≤ maxLen := by
  obtain ⟨n, rfl⟩ := Int.eq_ofNat_of_zero_le h0
  have e : strOfNums [(n : Int)] = ⟨#[UInt8.ofNat n]⟩ := by simp [strOfNums]
  rw [e]
  refine ⟨?_, by show 1 ≤ maxLen; unfold maxLen; omega⟩
  have t : (UInt8.ofNat n).toNat = n := by rw [UInt8.toNat_ofNat']; omega
  show okL [UInt8.ofNat n] = _
  simp [okL, okC, t]

theorem one_case (a0 : Int) (b0 : 0 ≤ a0) (b1 : a0 ≤ 255) (w : World) :
    ∃ s : ByteArray, (convert 29 9 (.slice (some ⟨w.heap.size, 0, none⟩) 1 1)).run Trym.prog (w.alloc (.cells #[.int .u8 a0] 5)) = .ok (.string s) (w.alloc (.cells #[.int .u8 a0] 5)) ∧ okL s.data.toList = !(decide (a0 < 33) || a0 == 34 || a0 == 127) ∧ s.size ≤ maxLen := by
  obtain ⟨h1, h2⟩ := one_str a0 b0 b1
  refine ⟨strOfNums [a0], ?_, h1, h2⟩
  refine run_convert_bytes_arg (P := Trym.prog) _ 29 5 Trym.underlying29 Trym.underlying5 w.heap.size 0 1 1 [a0] rfl (fun i hi => ?_) 9 Trym.underlying9
  obtain rfl : i = 0 := by omega
  simp [go_sem]

set_option maxHeartbeats 2000000 in
theorem one_walk (a0 : Int) (w0 : (Lit.int .u8 a0).wf = true) (w : World) :
    Calls Trym.prog 6 #[.int .u8 a0] w fun e w' => e = .returned (.bool true) ∧ Grown w w' := by
  have hb : 0 ≤ a0 ∧ a0 ≤ 255 := by simpa [Lit.wf, IntKind.min, IntKind.max, IntKind.bits, IntKind.signed] using w0
  obtain ⟨b0, b1⟩ := hb
  clear w0
  obtain ⟨s, hcv, hok, hs⟩ := one_case a0 b0 b1 w
  by_cases h0 : a0 < 33
  · have hx : Hid (okL s.data.toList = false) := by
      have : (!(decide (a0 < 33) || a0 == 34 || a0 == 127)) = false := by
        by_cases g1 : a0 < 33 <;> by_cases g2 : a0 = 34 <;> by_cases g3 : a0 = 127 <;> simp [g1, g2, g3] <;> omega
      rw [this] at hok; exact hok
    have e1 : (a0 == 33) = false := by simp; omega
    have e2 : decide (35 ≤ a0) = false := by simp; omega
    have e3 : ¬ 128 ≤ a0 := by omega
    clear hok h0
    go_enter Trym.func6, Trym.ntmps6
    go_wp2_with fail
    refine (tag_to s false hx.out hs _).mono ?_
    rintro e _ ⟨rfl, rfl⟩
    go_wp2_with fail
    go_ret
    exact ⟨rfl, (Grown.refl _).alloc _ _⟩
  by_cases h1 : a0 = 33
  · have hx : Hid (okL s.data.toList = true) := by
      have : (!(decide (a0 < 33) || a0 == 34 || a0 == 127)) = true := by
        by_cases g1 : a0 < 33 <;> by_cases g2 : a0 = 34 <;> by_cases g3 : a0 = 127 <;> simp [g1, g2, g3] <;> omega
      rw [this] at hok; exact hok
    have e1 : (a0 == 33) = true := by simp [h1]
    clear hok h1
    go_enter Trym.func6, Trym.ntmps6
    go_wp2_with fail
    refine (tag_to s true hx.out hs _).mono ?_
    rintro e _ ⟨rfl, rfl⟩
    go_wp2_with fail
    go_ret
    exact ⟨rfl, (Grown.refl _).alloc _ _⟩
  by_cases h2 : a0 = 34
  · have hx : Hid (okL s.data.toList = false) := by
      have : (!(decide (a0 < 33) || a0 == 34 || a0 == 127)) = false := by
        by_cases g1 : a0 < 33 <;> by_cases g2 : a0 = 34 <;> by_cases g3 : a0 = 127 <;> simp [g1, g2, g3] <;> omega
      rw [this] at hok; exact hok
    have e1 : (a0 == 33) = false := by simp; omega
    have e2 : decide (35 ≤ a0) = false := by simp; omega
    have e3 : ¬ 128 ≤ a0 := by omega
    clear hok h2
    go_enter Trym.func6, Trym.ntmps6
    go_wp2_with fail
    refine (tag_to s false hx.out hs _).mono ?_
    rintro e _ ⟨rfl, rfl⟩
    go_wp2_with fail
    go_ret
    exact ⟨rfl, (Grown.refl _).alloc _ _⟩
  by_cases h3 : a0 ≤ 126
  · have hx : Hid (okL s.data.toList = true) := by
      have : (!(decide (a0 < 33) || a0 == 34 || a0 == 127)) = true := by
        by_cases g1 : a0 < 33 <;> by_cases g2 : a0 = 34 <;> by_cases g3 : a0 = 127 <;> simp [g1, g2, g3] <;> omega
      rw [this] at hok; exact hok
    have e1 : (a0 == 33) = false := by simp; omega
    have e2 : 35 ≤ a0 := by omega
    have e3 : a0 ≤ 126 := by omega
    clear hok h3
    go_enter Trym.func6, Trym.ntmps6
    go_wp2_with fail
    refine (tag_to s true hx.out hs _).mono ?_
    rintro e _ ⟨rfl, rfl⟩
    go_wp2_with fail
    go_ret
    exact ⟨rfl, (Grown.refl _).alloc _ _⟩
  by_cases h4 : a0 = 127
  · have hx : Hid (okL s.data.toList = false) := by
      have : (!(decide (a0 < 33) || a0 == 34 || a0 == 127)) = false := by
        by_cases g1 : a0 < 33 <;> by_cases g2 : a0 = 34 <;> by_cases g3 : a0 = 127 <;> simp [g1, g2, g3] <;> omega
      rw [this] at hok; exact hok
    have e1 : (a0 == 33) = false := by simp; omega
    have e2 : 35 ≤ a0 := by omega
    have e3 : decide (a0 ≤ 126) = false := by simp; omega
    have e4 : ¬ 128 ≤ a0 := by omega
    clear hok h4
    go_enter Trym.func6, Trym.ntmps6
    go_wp2_with fail
    refine (tag_to s false hx.out hs _).mono ?_
    rintro e _ ⟨rfl, rfl⟩
    go_wp2_with fail
    go_ret
    exact ⟨rfl, (Grown.refl _).alloc _ _⟩
  · have hx : Hid (okL s.data.toList = true) := by
      have : (!(decide (a0 < 33) || a0 == 34 || a0 == 127)) = true := by
        by_cases g1 : a0 < 33 <;> by_cases g2 : a0 = 34 <;> by_cases g3 : a0 = 127 <;> simp [g1, g2, g3] <;> omega
      rw [this] at hok; exact hok
    have e1 : (a0 == 33) = false := by simp; omega
    have e2 : 35 ≤ a0 := by omega
    have e3 : decide (a0 ≤ 126) = false := by simp; omega
    have e4 : 128 ≤ a0 := by omega
    clear hok
    go_enter Trym.func6, Trym.ntmps6
    go_wp2_with fail
    refine (tag_to s true hx.out hs _).mono ?_
    rintro e _ ⟨rfl, rfl⟩
    go_wp2_with fail
    go_ret
    exact ⟨rfl, (Grown.refl _).alloc _ _⟩
end Go.Proofs.Qxb6600151aMods
