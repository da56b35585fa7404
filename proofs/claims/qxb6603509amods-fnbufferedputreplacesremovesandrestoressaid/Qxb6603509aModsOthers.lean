/-
  FOR THE SECOND LAW ON THE BUFFER: ZZrowPayload, ZZrowResult, zzOthersSame.
-/
import Derived.Test.Qxb6603509aModsRowTo
namespace Go.Proofs.Qxb6603509aMods
open Go.RowKit

set_option maxHeartbeats 1000000 in
theorem payload_any (w : World) (p : Nat) (a : Option Addr) (n c : Nat) (hc : w.cell? ⟨p, 4, none⟩ = some (.slice a n c)) :
    Calls Trym.prog 27 #[.pointer (some ⟨p, 0, none⟩)] w fun e w' => e = .returned (.slice a n c) ∧ w = w' := by
  go_enter Trym.func27, Trym.ntmps27
  go_wp2
  go_ret
  exact ⟨rfl, rfl⟩
set_option maxHeartbeats 1000000 in
theorem result_any (w : World) (p : Nat) (a : Option Addr) (n c : Nat) (hc : w.cell? ⟨p, 24, none⟩ = some (.slice a n c)) :
    Calls Trym.prog 28 #[.pointer (some ⟨p, 0, none⟩)] w fun e w' => e = .returned (.slice a n c) ∧ w = w' := by
  go_enter Trym.func28, Trym.ntmps28
  go_wp2
  go_ret
  exact ⟨rfl, rfl⟩

theorem BufAt.pos {w : World} {b : Nat} {M : Int → Option Nat} {N : Nat} {y : Int} {sz : Nat → Int} (h : BufAt w b M N y sz) {s : Int} {p : Nat} (hs : M s = some p) : 0 < N := by
  rcases h.map with ⟨_, hM, _⟩ | ⟨bm, _, _, es, clock, _, hn, hh⟩
  · rw [hM s] at hs; cases hs
  · obtain ⟨x, hx, _⟩ := hh.all s p hs
    have : 0 < es.toList.length := List.length_pos_of_mem hx
    rw [← hn]; simpa using this

set_option maxHeartbeats 4000000 in
/-- zzOthersSame: every seq of the script other than s holds what the two slices say. -/
theorem others_any (w : World) (b : Nat) (M M' : Int → Option Nat) (N : Nat) (y : Int) (sz : Nat → Int) (hB : BufAt w b M' N y sz) (aS : Option Addr) (n cS : Nat) (z : Nat → Int) (hz : SlIn w aS n cS (fun i => .int .i64 (z i))) (s : Int)
    (ob okb : Nat) (ho : w.rowIs ob 35 n (fun i => ptrOf (M (z i)))) (hk : w.rowIs okb 4 n (fun i => .bool (M (z i)).isSome)) (hn : n ≤ 4096) (hsame : ∀ i, i < n → z i ≠ s → M' (z i) = M (z i)) :
    Calls Trym.prog 30 #[.pointer (some ⟨b, 0, none⟩), .slice aS n cS, .int .i64 s, .slice (some ⟨ob, 0, none⟩) n n, .slice (some ⟨okb, 0, none⟩) n n] w fun e w' => e = .returned (.bool true) ∧ Below w.heap.size w w' := by
  have HB : Hid (BufAt w b M' N y sz) := hB
  have HZ : Hid (SlIn w aS n cS (fun i => .int .i64 (z i))) := hz
  have HO : Hid (w.rowIs ob 35 n (fun i => ptrOf (M (z i)))) := ho
  have HK : Hid (w.rowIs okb 4 n (fun i => .bool (M (z i)).isSome)) := hk
  have HSm : Hid (∀ i, i < n → z i ≠ s → M' (z i) = M (z i)) := hsame
  clear hB hz ho hk hsame
  go_enter Trym.func30, Trym.ntmps30
  go_wp2
  go_loopw [11] (fun i wr => ∃ k : Nat, k ≤ n ∧ i = .int .i64 k ∧ Below w.heap.size w wr) (fun i _ => n - (intOf i).toNat)
  case atStart => exact ⟨0, Nat.zero_le _, rfl, Below.refl _ _⟩
  case round =>
    obtain ⟨k, hk, rfl, hbel⟩ := hrel
    by_cases hlt : k < n
    · obtain ⟨bs, offs, ha, hck⟩ := (HZ.out.below hbel).at hlt
      subst ha
      have hBr := HB.out.below hbel
      have hor := (HO.out.of_block (hbel.block _ HO.out.lt)).cell hlt
      have hkr := (HK.out.of_block (hbel.block _ HK.out.lt)).cell hlt
      have i1 : (k : Int) < (n : Int) := by omega
      by_cases e : z k = s
      · have he : (z k == s) = true := by simp [e]
        clear e hor hkr hBr
        go_wp2
        go_roundw
        case rel => exact ⟨k + 1, by omega, by go_num, hbel⟩
        case measure => simp [intOf]; omega
      · have he : (z k == s) = false := by simp [e]
        have hM := HSm.out k hlt e
        have HBr : Hid (BufAt wr b M' N y sz) := hBr
        clear hBr e
        cases hm : M (z k) with
        | none =>
          rw [hm] at hM hor hkr
          have HM : Hid (M' (z k) = none) := hM
          have hor' : wr.cell? ⟨ob, k, none⟩ = some (.pointer none) := hor
          have hkr' : wr.cell? ⟨okb, k, none⟩ = some (.bool false) := hkr
          clear hor hkr hM hm
          go_wp2_with fail
          refine (row_none HBr.out HM.out).mono ?_
          rintro e _ ⟨rfl, rfl⟩
          go_wp2
          go_roundw
          case rel => exact ⟨k + 1, by omega, by go_num, hbel⟩
          case measure => simp [intOf]; omega
        | some p =>
          rw [hm] at hM hor hkr
          have HM : Hid (M' (z k) = some p) := hM
          have hor' : wr.cell? ⟨ob, k, none⟩ = some (.pointer (some ⟨p, 0, none⟩)) := hor
          have hkr' : wr.cell? ⟨okb, k, none⟩ = some (.bool true) := hkr
          have hneq := neq_same ⟨p, 0, none⟩
          clear hor hkr hM hm
          go_wp2_with fail
          refine (row_some HBr.out HM.out).mono ?_
          rintro e _ ⟨rfl, rfl⟩
          go_wp2
          go_roundw
          case rel => exact ⟨k + 1, by omega, by go_num, hbel⟩
          case measure => simp [intOf]; omega
    · go_wp2
      go_ret
      exact ⟨rfl, hbel⟩
end Go.Proofs.Qxb6603509aMods
