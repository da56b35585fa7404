/-
  zzScriptBytes and zzBytes: they only read; what they answer.
-/
import Derived.Test.Qxb6603509aModsScr
namespace Go.Proofs.Qxb6603509aMods
open Go.RowKit

theorem RdBs.pos {w : World} {a : Option Addr} {m cap : Nat} {len : Nat → Nat} (h : RdBs w a m cap len) {k : Nat} (hk : k < m) : ∃ b off a' c', a = some ⟨b, off, none⟩ ∧ w.cell? ⟨b, off + k, none⟩ = some (.slice a' (len k) c') := by
  obtain ⟨u, hs, hu⟩ := h
  obtain ⟨b, off, ha, -, hc⟩ := hs.pos hk
  obtain ⟨a', c', z, hv, -⟩ := hu k hk
  exact ⟨b, off, a', c', ha, by rw [hc k hk, hv]⟩
theorem SlIn.at {w : World} {a : Option Addr} {n cap : Nat} {f : Nat → Value} (h : SlIn w a n cap f) {k : Nat} (hk : k < n) : ∃ b off, a = some ⟨b, off, none⟩ ∧ w.cell? ⟨b, off + k, none⟩ = some (f k) := by
  obtain ⟨b, off, ha, -, hc⟩ := h.pos hk
  exact ⟨b, off, ha, hc k hk⟩

set_option maxHeartbeats 4000000 in
/-- zzScriptBytes: an int within 0 and 2^21; where it is at most 2^20, no payload and no result is longer. -/
theorem scriptBytes_any (aS : Option Addr) (nS cS : Nat) (S : Scr) (w : World) (h : ScrIn w S) (h0 : nS ≤ 4096) (h1 : S.nP ≤ 4096) (h2 : S.nR ≤ 4096) (h3 : S.nE ≤ 4096) (h4 : S.nD ≤ 4096) (h5 : S.nF ≤ 4096) :
    Calls Trym.prog 10 #[.slice aS nS cS, .slice S.aP S.nP S.cP, .slice S.aR S.nR S.cR, .slice S.aE S.nE S.cE, .slice S.aD S.nD S.cD, .slice S.aF S.nF S.cF] w fun e w' =>
      (∃ t : Int, e = .returned (.int .i64 t) ∧ 0 ≤ t ∧ t ≤ 2097152 ∧ (t ≤ 1048576 → (∀ i, i < S.nP → S.lenP i ≤ 1048576) ∧ ∀ i, i < S.nR → S.lenR i ≤ 1048576)) ∧ w' = w := by
  obtain ⟨aP, nP, cP, lenP, aR, nR, cR, lenR, aE, nE, cE, zE, aD, nD, cD, zD, aF, nF, cF, zF⟩ := S
  have HP : Hid (RdBs w aP nP cP lenP) := h.P
  have HR : Hid (RdBs w aR nR cR lenR) := h.R
  have HE : Hid (SlIn w aE nE cE (fun i => .string (zE i))) := h.E
  clear h
  simp only at h1 h2 h3 h4 h5
  go_enter Trym.func10, Trym.ntmps10
  go_wp2
  go_loop [13, 14] (fun t i => ∃ (k : Nat) (x : Int), k ≤ nP ∧ i = .int .i64 k ∧ t = .int .i64 x ∧ 0 ≤ x ∧ x ≤ 2097152 ∧ ∀ j, j < k → lenP j ≤ 1048576) (fun _ i => nP - (intOf i).toNat)
  case atStart => exact ⟨0, _, Nat.zero_le _, rfl, rfl, by omega, by omega, fun j hj => absurd hj (by omega)⟩
  case round =>
    obtain ⟨k, x, hk, rfl, rfl, x0, x1, hall⟩ := hrel
    have HA : Hid (∀ j, j < k → lenP j ≤ 1048576) := hall
    clear hall
    by_cases hlt : k < nP
    · obtain ⟨b, off, a', c', ha, hck⟩ := HP.out.pos hlt
      subst ha
      by_cases hx : 1048576 < x
      · go_wp2
        go_ret
        exact ⟨⟨_, rfl, by omega, by omega, fun h => absurd h (by omega)⟩, rfl⟩
      · by_cases hl : 1048576 < lenP k
        · have hx' : decide (1048576 < x) = false := by simpa using hx
          go_wp2
          go_ret
          exact ⟨⟨_, rfl, by omega, by omega, fun h => absurd h (by omega)⟩, rfl⟩
        · have hx' : decide (1048576 < x) = false := by simpa using hx
          have hl' : ¬ (1048576 : Int) < (lenP k : Int) := by omega
          go_wp2
          go_round
          case rel => exact ⟨k + 1, _, by omega, by go_num, rfl, by omega, by omega, fun j hj => by
            by_cases e : j = k
            · subst e; omega
            · exact HA.out j (by omega)⟩
          case measure => simp [intOf]; omega
    · have HA2 : Hid (∀ j, j < nP → lenP j ≤ 1048576) := fun j hj => HA.out j (by omega)
      clear HA
      go_wp2
      go_loop [13, 15] (fun t i => ∃ (k : Nat) (x : Int), k ≤ nR ∧ i = .int .i64 k ∧ t = .int .i64 x ∧ 0 ≤ x ∧ x ≤ 2097152 ∧ ∀ j, j < k → lenR j ≤ 1048576) (fun _ i => nR - (intOf i).toNat)
      case atStart => exact ⟨0, _, Nat.zero_le _, rfl, rfl, by omega, by omega, fun j hj => absurd hj (by omega)⟩
      case round =>
        obtain ⟨k2, x2, hk2, rfl, rfl, y0, y1, hall⟩ := hrel
        have HB : Hid (∀ j, j < k2 → lenR j ≤ 1048576) := hall
        clear hall
        by_cases hlt2 : k2 < nR
        · obtain ⟨b, off, a', c', ha, hck⟩ := HR.out.pos hlt2
          subst ha
          by_cases hx : 1048576 < x2
          · go_wp2
            go_ret
            exact ⟨⟨_, rfl, by omega, by omega, fun h => absurd h (by omega)⟩, rfl⟩
          · have hx' : decide (1048576 < x2) = false := by simpa using hx
            by_cases hl : 1048576 < lenR k2
            · go_wp2
              go_ret
              exact ⟨⟨_, rfl, by omega, by omega, fun h => absurd h (by omega)⟩, rfl⟩
            · have hl' : ¬ (1048576 : Int) < (lenR k2 : Int) := by omega
              go_wp2
              go_round
              case rel => exact ⟨k2 + 1, _, by omega, by go_num, rfl, by omega, by omega, fun j hj => by
                by_cases e : j = k2
                · subst e; omega
                · exact HB.out j (by omega)⟩
              case measure => simp [intOf]; omega
        · have HB2 : Hid (∀ j, j < nR → lenR j ≤ 1048576) := fun j hj => HB.out j (by omega)
          clear HB
          go_wp2
          go_loop [13, 16] (fun t i => ∃ (k : Nat) (x : Int), k ≤ nE ∧ i = .int .i64 k ∧ t = .int .i64 x ∧ 0 ≤ x ∧ x ≤ 2097152) (fun _ i => nE - (intOf i).toNat)
          case atStart => exact ⟨0, _, Nat.zero_le _, rfl, rfl, by omega, by omega⟩
          case round =>
            obtain ⟨k3, x3, hk3, rfl, rfl, z0, z1⟩ := hrel
            by_cases hlt3 : k3 < nE
            · obtain ⟨b, off, ha, hck⟩ := HE.out.at hlt3
              subst ha
              by_cases hx : 1048576 < x3
              · go_wp2
                go_ret
                exact ⟨⟨_, rfl, by omega, by omega, fun h => absurd h (by omega)⟩, rfl⟩
              · have hx' : decide (1048576 < x3) = false := by simpa using hx
                by_cases hl : 1048576 < (zE k3).size
                · go_wp2
                  go_ret
                  exact ⟨⟨_, rfl, by omega, by omega, fun h => absurd h (by omega)⟩, rfl⟩
                · have hl' : ¬ (1048576 : Int) < ((zE k3).size : Int) := by omega
                  go_wp2
                  go_round
                  case rel => exact ⟨k3 + 1, _, by omega, by go_num, rfl, by omega, by omega⟩
                  case measure => simp [intOf]; omega
            · go_wp2
              go_ret
              exact ⟨⟨_, rfl, by omega, by omega, fun _ => ⟨HA2.out, HB2.out⟩⟩, rfl⟩
end Go.Proofs.Qxb6603509aMods
