/-
  zzBytes of the two laws on the buffer: it only reads, and answers a bool.
-/
import Derived.Test.Qxb6603509aModsZz
namespace Go.Proofs.Qxb6603509aMods
open Go.RowKit

def IsBool (e : Ending) : Prop := ∃ r, e = .returned (.bool r)
theorem isBool_mk (r : Bool) : IsBool (.returned (.bool r)) := ⟨r, rfl⟩

set_option maxHeartbeats 4000000 in
/-- zzBytes of the first law: it answers. -/
theorem zzBytes9_any (aS : Option Addr) (nS cS : Nat) (S : Scr) (w : World) (h : ScrIn w S) :
    Calls Trym.prog 9 #[.slice aS nS cS, .slice S.aP S.nP S.cP, .slice S.aR S.nR S.cR, .slice S.aE S.nE S.cE, .slice S.aD S.nD S.cD, .slice S.aF S.nF S.cF] w fun e w' => IsBool e ∧ w' = w := by
  obtain ⟨aP, nP, cP, lenP, aR, nR, cR, lenR, aE, nE, cE, zE, aD, nD, cD, zD, aF, nF, cF, zF⟩ := S
  have HP : Hid (RdBs w aP nP cP lenP) := h.P
  have HR : Hid (RdBs w aR nR cR lenR) := h.R
  have HE : Hid (SlIn w aE nE cE (fun i => .string (zE i))) := h.E
  clear h
  go_enter Trym.func9, Trym.ntmps9
  go_wp2
  all_goals try (go_ret; exact ⟨isBool_mk _, rfl⟩)
  go_loop [13, 14] (fun t i => ∃ (k : Nat) (x : Int), k ≤ nP ∧ i = .int .i64 k ∧ t = .int .i64 x ∧ 0 ≤ x ∧ x ≤ 1048576) (fun _ i => nP - (intOf i).toNat)
  case atStart => exact ⟨0, _, Nat.zero_le _, rfl, rfl, by omega, by omega⟩
  case round =>
    obtain ⟨k1, xk1, hk1, rfl, rfl, x0k1, x1k1⟩ := hrel
    by_cases hltk1 : k1 < nP
    · obtain ⟨b, off, a', c', ha, hck⟩ := HP.out.pos hltk1
      subst ha
      by_cases hl : 1048576 < lenP k1
      · go_wp2
        go_ret
        exact ⟨isBool_mk _, rfl⟩
      · have hl' : ¬ (1048576 : Int) < (lenP k1 : Nat) := by omega
        by_cases hz : 1048576 < xk1 + (lenP k1 : Nat)
        · go_wp2
          go_ret
          exact ⟨isBool_mk _, rfl⟩
        · go_wp2
          go_round
          case rel => exact ⟨k1 + 1, _, by omega, by go_num, rfl, by omega, by omega⟩
          case measure => simp [intOf]; omega
    · go_wp2
      all_goals try (go_ret; exact ⟨isBool_mk _, rfl⟩)
      go_loop [13, 15] (fun t i => ∃ (k : Nat) (x : Int), k ≤ nR ∧ i = .int .i64 k ∧ t = .int .i64 x ∧ 0 ≤ x ∧ x ≤ 1048576) (fun _ i => nR - (intOf i).toNat)
      case atStart => exact ⟨0, _, Nat.zero_le _, rfl, rfl, by omega, by omega⟩
      case round =>
        obtain ⟨k2, xk2, hk2, rfl, rfl, x0k2, x1k2⟩ := hrel
        by_cases hltk2 : k2 < nR
        · obtain ⟨b, off, a', c', ha, hck⟩ := HR.out.pos hltk2
          subst ha
          by_cases hl : 1048576 < lenR k2
          · go_wp2
            go_ret
            exact ⟨isBool_mk _, rfl⟩
          · have hl' : ¬ (1048576 : Int) < (lenR k2 : Nat) := by omega
            by_cases hz : 1048576 < xk2 + (lenR k2 : Nat)
            · go_wp2
              go_ret
              exact ⟨isBool_mk _, rfl⟩
            · go_wp2
              go_round
              case rel => exact ⟨k2 + 1, _, by omega, by go_num, rfl, by omega, by omega⟩
              case measure => simp [intOf]; omega
        · go_wp2
          all_goals try (go_ret; exact ⟨isBool_mk _, rfl⟩)
          go_loop [13, 16] (fun t i => ∃ (k : Nat) (x : Int), k ≤ nE ∧ i = .int .i64 k ∧ t = .int .i64 x ∧ 0 ≤ x ∧ x ≤ 1048576) (fun _ i => nE - (intOf i).toNat)
          case atStart => exact ⟨0, _, Nat.zero_le _, rfl, rfl, by omega, by omega⟩
          case round =>
            obtain ⟨k3, xk3, hk3, rfl, rfl, x0k3, x1k3⟩ := hrel
            by_cases hltk3 : k3 < nE
            · obtain ⟨b, off, ha, hck⟩ := HE.out.at hltk3
              subst ha
              by_cases hl : 1048576 < (zE k3).size
              · go_wp2
                go_ret
                exact ⟨isBool_mk _, rfl⟩
              · have hl' : ¬ (1048576 : Int) < ((zE k3).size : Nat) := by omega
                by_cases hz : 1048576 < xk3 + ((zE k3).size : Nat)
                · go_wp2
                  go_ret
                  exact ⟨isBool_mk _, rfl⟩
                · go_wp2
                  go_round
                  case rel => exact ⟨k3 + 1, _, by omega, by go_num, rfl, by omega, by omega⟩
                  case measure => simp [intOf]; omega
            · go_wp2
              all_goals try (go_ret; exact ⟨isBool_mk _, rfl⟩)

set_option maxHeartbeats 4000000 in
/-- zzBytes of the second law: it answers. -/
theorem zzBytes25_any (aS : Option Addr) (nS cS : Nat) (S : Scr) (sq : Int) (aL : Option Addr) (nL cL : Nat) (aK : Option Addr) (nK cK : Nat) (sE : ByteArray) (df : Bool) (w : World) (h : ScrIn w S) :
    Calls Trym.prog 25 #[.slice aS nS cS, .slice S.aP S.nP S.cP, .slice S.aR S.nR S.cR, .slice S.aE S.nE S.cE, .slice S.aD S.nD S.cD, .slice S.aF S.nF S.cF, .int .i64 sq, .slice aL nL cL, .slice aK nK cK, .string sE, .bool df] w fun e w' => IsBool e ∧ w' = w := by
  obtain ⟨aP, nP, cP, lenP, aR, nR, cR, lenR, aE, nE, cE, zE, aD, nD, cD, zD, aF, nF, cF, zF⟩ := S
  have HP : Hid (RdBs w aP nP cP lenP) := h.P
  have HR : Hid (RdBs w aR nR cR lenR) := h.R
  have HE : Hid (SlIn w aE nE cE (fun i => .string (zE i))) := h.E
  clear h
  go_enter Trym.func25, Trym.ntmps25
  go_wp2
  all_goals try (go_ret; exact ⟨isBool_mk _, rfl⟩)
  go_loop [23, 24] (fun t i => ∃ (k : Nat) (x : Int), k ≤ nP ∧ i = .int .i64 k ∧ t = .int .i64 x ∧ 0 ≤ x ∧ x ≤ 1048576) (fun _ i => nP - (intOf i).toNat)
  case atStart => exact ⟨0, _, Nat.zero_le _, rfl, rfl, by omega, by omega⟩
  case round =>
    obtain ⟨k1, xk1, hk1, rfl, rfl, x0k1, x1k1⟩ := hrel
    by_cases hltk1 : k1 < nP
    · obtain ⟨b, off, a', c', ha, hck⟩ := HP.out.pos hltk1
      subst ha
      by_cases hl : 1048576 < lenP k1
      · go_wp2
        go_ret
        exact ⟨isBool_mk _, rfl⟩
      · have hl' : ¬ (1048576 : Int) < (lenP k1 : Nat) := by omega
        by_cases hz : 1048576 < xk1 + (lenP k1 : Nat)
        · go_wp2
          go_ret
          exact ⟨isBool_mk _, rfl⟩
        · go_wp2
          go_round
          case rel => exact ⟨k1 + 1, _, by omega, by go_num, rfl, by omega, by omega⟩
          case measure => simp [intOf]; omega
    · go_wp2
      all_goals try (go_ret; exact ⟨isBool_mk _, rfl⟩)
      go_loop [23, 25] (fun t i => ∃ (k : Nat) (x : Int), k ≤ nR ∧ i = .int .i64 k ∧ t = .int .i64 x ∧ 0 ≤ x ∧ x ≤ 1048576) (fun _ i => nR - (intOf i).toNat)
      case atStart => exact ⟨0, _, Nat.zero_le _, rfl, rfl, by omega, by omega⟩
      case round =>
        obtain ⟨k2, xk2, hk2, rfl, rfl, x0k2, x1k2⟩ := hrel
        by_cases hltk2 : k2 < nR
        · obtain ⟨b, off, a', c', ha, hck⟩ := HR.out.pos hltk2
          subst ha
          by_cases hl : 1048576 < lenR k2
          · go_wp2
            go_ret
            exact ⟨isBool_mk _, rfl⟩
          · have hl' : ¬ (1048576 : Int) < (lenR k2 : Nat) := by omega
            by_cases hz : 1048576 < xk2 + (lenR k2 : Nat)
            · go_wp2
              go_ret
              exact ⟨isBool_mk _, rfl⟩
            · go_wp2
              go_round
              case rel => exact ⟨k2 + 1, _, by omega, by go_num, rfl, by omega, by omega⟩
              case measure => simp [intOf]; omega
        · go_wp2
          all_goals try (go_ret; exact ⟨isBool_mk _, rfl⟩)
          go_loop [23, 26] (fun t i => ∃ (k : Nat) (x : Int), k ≤ nE ∧ i = .int .i64 k ∧ t = .int .i64 x ∧ 0 ≤ x ∧ x ≤ 1048576) (fun _ i => nE - (intOf i).toNat)
          case atStart => exact ⟨0, _, Nat.zero_le _, rfl, rfl, by omega, by omega⟩
          case round =>
            obtain ⟨k3, xk3, hk3, rfl, rfl, x0k3, x1k3⟩ := hrel
            by_cases hltk3 : k3 < nE
            · obtain ⟨b, off, ha, hck⟩ := HE.out.at hltk3
              subst ha
              by_cases hl : 1048576 < (zE k3).size
              · go_wp2
                go_ret
                exact ⟨isBool_mk _, rfl⟩
              · have hl' : ¬ (1048576 : Int) < ((zE k3).size : Nat) := by omega
                by_cases hz : 1048576 < xk3 + ((zE k3).size : Nat)
                · go_wp2
                  go_ret
                  exact ⟨isBool_mk _, rfl⟩
                · go_wp2
                  go_round
                  case rel => exact ⟨k3 + 1, _, by omega, by go_num, rfl, by omega, by omega⟩
                  case measure => simp [intOf]; omega
            · go_wp2
              all_goals try (go_ret; exact ⟨isBool_mk _, rfl⟩)
end Go.Proofs.Qxb6603509aMods
