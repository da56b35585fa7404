/-
  ZZrow and the count of rows, in the forms that the two laws' walks take.
-/
import Derived.Test.Qxb6603509aModsDone
import Derived.LaidEql
namespace Go.Proofs.Qxb6603509aMods
open Go.RowKit

theorem row_none {w : World} {b : Nat} {M : Int → Option Nat} {N : Nat} {y : Int} {sz : Nat → Int} (h : BufAt w b M N y sz) {s : Int} (hs : M s = none) :
    Calls Trym.prog 18 #[.pointer (some ⟨b, 0, none⟩), .int .i64 s] w fun e w' => e = .returned (.tuple #[.pointer none, .bool false]) ∧ w = w' := by
  refine (row_any w b M N y sz h s).mono ?_
  rintro e w' ⟨rfl, rfl⟩
  rw [hs]; exact ⟨rfl, rfl⟩
theorem row_some {w : World} {b : Nat} {M : Int → Option Nat} {N : Nat} {y : Int} {sz : Nat → Int} (h : BufAt w b M N y sz) {s : Int} {p : Nat} (hs : M s = some p) :
    Calls Trym.prog 18 #[.pointer (some ⟨b, 0, none⟩), .int .i64 s] w fun e w' => e = .returned (.tuple #[.pointer (some ⟨p, 0, none⟩), .bool true]) ∧ w = w' := by
  refine (row_any w b M N y sz h s).mono ?_
  rintro e w' ⟨rfl, rfl⟩
  rw [hs]; exact ⟨rfl, rfl⟩
theorem count_to {w : World} {b : Nat} {M : Int → Option Nat} {N : Nat} {y : Int} {sz : Nat → Int} (h : BufAt w b M N y sz) {x : Int} (hx : (N : Int) = x) :
    Calls Trym.prog 20 #[.pointer (some ⟨b, 0, none⟩)] w fun e w' => e = .returned (.int .i64 x) ∧ w = w' := by
  refine (rowCount_any w b M N y sz h).mono ?_
  rintro e w' ⟨rfl, rfl⟩
  rw [hx]; exact ⟨rfl, rfl⟩
theorem bytes_to {w : World} {b : Nat} {M : Int → Option Nat} {N : Nat} {y : Int} {sz : Nat → Int} (h : BufAt w b M N y sz) {x : Int} (hx : y = x) :
    Calls Trym.prog 21 #[.pointer (some ⟨b, 0, none⟩)] w fun e w' => e = .returned (.int .i64 x) ∧ w = w' := by
  refine (bytes_any w b M N y sz h).mono ?_
  rintro e w' ⟨rfl, rfl⟩
  rw [hx]; exact ⟨rfl, rfl⟩
theorem bytesAt_to {w : World} {a : Option Addr} {m cap : Nat} {len : Nat → Nat} (h : RdBs w a m cap len) (hm : m ≤ 1048576) {k x : Nat} (hk : k ≤ 1048576) (hx : (if k < m then len k else 0) = x) :
    Calls Trym.prog 19 #[.slice a m cap, .int .i64 k] w fun e w' => (∃ a' c', e = .returned (.slice a' x c')) ∧ w = w' := by
  refine (bytesAt_any w a m cap len h hm k hk).mono ?_
  rintro e w' ⟨v, rfl, hv, rfl⟩
  rw [hx] at hv
  obtain ⟨a', c', _, rfl, _⟩ := hv
  exact ⟨⟨a', c', rfl⟩, rfl⟩

theorem info88 : (Trym.prog.info? 88).map (fun i => i.size) = some 32 := by kernel_rfl
/-- 'p != p' at pointers to rows. -/
theorem neq_same (a : Addr) (w : World) : (binOp .neq 35 (.pointer (some a)) (.pointer (some a))).run Trym.prog w = .ok (.bool false) w := by
  obtain ⟨j, hj, -⟩ := Option.map_eq_some_iff.1 info88
  have h : ∀ d : Nat, (Op.equalIn (d + 1) 35 (.pointer (some a)) (.pointer (some a))).run Trym.prog w = .ok true w := fun d => by
    simp [Op.equalIn, run_underlying Trym.underlying35, typeInfo, sizeOf, hj, run_sameAddr_same]
  simp only [binOp]
  simp [Op.equal, Op.maxDepth, h 9999]
end Go.Proofs.Qxb6603509aMods
