/-
  THE WALK AND THE PLAIN LAW of 'FnPacePieceMadeScriptInOneSum'.
-/
import Derived.Test.Qxb6603509aModsPace
import Derived.Test.Qxb6603509aModsCloneInts
namespace Go.Proofs.Qxb6603509aMods.fnPacePieceMadeScriptInOneSum
open Go.RowKit

/-! ### THE PLAIN LAW -/
def sumTo (z : Nat → Int) : Nat → Int
  | 0 => 0
  | k + 1 => sumTo z k + z k
/-- What is left of l behind s tasks. -/
def lf (l s : Int) : Int := if s < l then l - s else 0
/-- s, held at the greatest int. -/
def dn (s : Int) : Int := if s ≤ 9223372036854775807 then s else 9223372036854775807

theorem sum_nonneg (z : Nat → Int) (n : Nat) (h : ∀ j, j < n → 0 ≤ z j) : ∀ k, k ≤ n → 0 ≤ sumTo z k
  | 0, _ => Int.le_refl 0
  | k + 1, hk => by
    have h1 := sum_nonneg z n h k (by omega)
    have h2 := h k (by omega)
    show 0 ≤ sumTo z k + z k
    omega
theorem lf_step (l s x : Int) (hl : 0 ≤ l) (hl1 : l ≤ 9223372036854775807) (hs : 0 ≤ s) (hx : 0 ≤ x) (hx1 : x ≤ 9223372036854775807) : cutLeft (lf l s) x = lf l (s + x) := by
  unfold cutLeft lf wrap64
  split <;> split <;> (try split) <;> omega
theorem mk_step (m s x : Int) : wrap64 (wrap64 (m + s) + x) = wrap64 (m + (s + x)) := by unfold wrap64; omega
theorem dn_hi (s x : Int) (h : 9223372036854775807 - x < dn s) : (9223372036854775807 : Int) = dn (s + x) := by
  unfold dn at *; split at h <;> split <;> omega
theorem dn_lo (s x : Int) (hs : 0 ≤ s) (hx : 0 ≤ x) (h : ¬ 9223372036854775807 - x < dn s) : dn s + x = dn (s + x) := by
  unfold dn at *; split at h <;> split <;> omega
theorem dn_range (s : Int) (hs : 0 ≤ s) : 0 ≤ dn s ∧ dn s ≤ 9223372036854775807 := by unfold dn; split <;> omega
theorem lf_lt (l s : Int) (hl1 : l ≤ 9223372036854775807) (h : dn s < l) : lf l s = l - dn s := by
  unfold lf dn at *; split at h <;> split <;> omega
theorem lf_ge (l s : Int) (hl1 : l ≤ 9223372036854775807) (h : ¬ dn s < l) : lf l s = 0 := by
  unfold lf dn at *; split at h <;> split <;> omega
theorem wrap_id (m : Int) (h0 : -9223372036854775808 ≤ m) (h1 : m ≤ 9223372036854775807) : wrap64 (m + 0) = m := by unfold wrap64; omega
theorem lf_zero (l : Int) (hl : 0 ≤ l) : lf l 0 = l := by unfold lf; split <;> omega

theorem own_shape {w : World} {base : Nat} {v : Value} {e : TypeId} {n : Nat} {f : Nat → Value} (h : SlOwn w base v e n f) : ∃ av cv, v = .slice av n cv ∧ ∀ k, k < n → ∃ rb, av = some ⟨rb, 0, none⟩ ∧ base ≤ rb ∧ w.rowIs rb e n f := by
  rcases h with ⟨rfl, rfl⟩ | ⟨b, h1, rfl, h3⟩
  · exact ⟨none, 0, rfl, fun k hk => absurd hk (by omega)⟩
  · exact ⟨_, _, rfl, fun k _ => ⟨b, rfl, h1, h3⟩⟩

/-! ### zzBytes -/
set_option maxHeartbeats 400000 in
theorem zzBytes_yes (D l m t : Int) (a : Option Addr) (n cap : Nat) (h : n ≤ 1048576) (w : World) :
    Calls Trym.prog 31 #[.int .i64 D, .int .i64 l, .int .i64 m, .int .i64 t, .slice a n cap] w fun e w' => e = .returned (.bool true) ∧ w' = w := by
  go_enter Trym.func31, Trym.ntmps31
  go_wp2
  go_ret
  exact ⟨rfl, rfl⟩
set_option maxHeartbeats 400000 in
theorem zzBytes_no (D l m t : Int) (a : Option Addr) (n cap : Nat) (h : 1048576 < n) (hn : n ≤ 9223372036854775807) (w : World) :
    Calls Trym.prog 31 #[.int .i64 D, .int .i64 l, .int .i64 m, .int .i64 t, .slice a n cap] w fun e w' => e = .returned (.bool false) ∧ w' = w := by
  go_enter Trym.func31, Trym.ntmps31
  go_wp2
  go_ret
  exact ⟨rfl, rfl⟩

/-! ### THE WALK -/
set_option maxHeartbeats 2000000 in
theorem main (D l m t : Int) (a : Option Addr) (n cap : Nat) (z : Nat → Int) (hD0 : -9223372036854775808 ≤ D) (hD1 : D ≤ 9223372036854775807) (hl : 0 ≤ l) (hl1 : l ≤ 9223372036854775807) (hm0 : -9223372036854775808 ≤ m) (hm1 : m ≤ 9223372036854775807)
    (hn : n ≤ 65536) (w : World) (hin : SlIn w a n cap (fun i => .int .i64 (z i))) (hz : ∀ j, j < n → z j ≤ 9223372036854775807) :
    Calls Trym.prog 5 #[.int .i64 D, .int .i64 l, .int .i64 m, .int .i64 t, .slice a n cap] w fun e w' => e = .returned (.bool true) ∧ Below w.heap.size w w' := by
  have Hin : Hid (SlIn w a n cap (fun i => .int .i64 (z i))) := hin
  clear hin
  go_enter Trym.func5, Trym.ntmps5
  go_wp2_with fail
  refine (zzBytes_yes D l m t a n cap (by omega) _).mono ?_
  rintro e w' ⟨rfl, hw⟩
  subst hw
  go_wp2_with fail
  go_loop [11] (fun i => ∃ k : Nat, k ≤ n ∧ i = .int .i64 k ∧ ∀ j, j < k → 0 ≤ z j) (fun i => n - (intOf i).toNat)
  case atStart => exact ⟨0, Nat.zero_le _, rfl, fun j hj => absurd hj (by omega)⟩
  case round =>
    obtain ⟨k, hk, rfl, hpos⟩ := hrel
    by_cases hlt : k < n
    · obtain ⟨b, off, ha, hb, hc⟩ : ∃ b off, a = some ⟨b, off, none⟩ ∧ b < w'.heap.size ∧ ∀ i, i < n → w'.cell? ⟨b, off + i, none⟩ = some (.int .i64 (z i)) := by
        rcases Hin.out with ⟨_, h, _⟩ | ⟨x, _, h⟩ | h
        · omega
        · omega
        · exact h
      subst ha
      have hck := hc k hlt
      have HP : Hid (∀ j, j < k → 0 ≤ z j) := hpos
      clear hc hpos
      by_cases hneg : z k < 0
      · go_wp2
        go_ret
        exact ⟨rfl, Below.refl _ _⟩
      · go_wp2
        go_round
        case rel => exact ⟨k + 1, by omega, by go_num, fun j hj => by
          by_cases e : j = k
          · subst e; omega
          · exact HP.out j (by omega)⟩
        case measure => simp [intOf]; omega
    · have hall : ∀ j, j < n → 0 ≤ z j := fun j hj => hpos j (by omega)
      have HA : Hid (∀ j, j < n → 0 ≤ z j) := hall
      clear hpos hall
      go_wp2_with fail
      refine (cloneInts_any a n cap z (by omega) _ Hin.out).mono ?_
      rintro e w1 ⟨v, rfl, hown, hb1⟩
      go_wp2_with fail
      refine (newPace_any D l m t hD0 hD1 _).mono ?_
      rintro e w2 ⟨p, rfl, hp0, hp, hb2⟩
      go_wp2_with fail
      obtain ⟨av, cv, hv, hrd⟩ := own_shape hown
      subst hv
      clear hown
      have HR : Hid (∀ k, k < n → ∃ rb, av = some ⟨rb, 0, none⟩ ∧ w'.heap.size ≤ rb ∧ w1.rowIs rb 3 n (fun i => .int .i64 (z i))) := hrd
      clear hrd
      have hb12 : Below w'.heap.size w' w2 := hb1.trans (hb2.mono hb1.size)
      have hps : p < w2.heap.size := hp.lt
      have e1 := wrap_id m hm0 hm1
      have e2 := lf_zero l hl
      have hst : PaceAt w2 p D (lf l (sumTo z 0)) (wrap64 (m + sumTo z 0)) t := by
        show PaceAt w2 p D (lf l 0) (wrap64 (m + 0)) t
        rw [e1, e2]; exact hp
      have HE : Hid (Value.int .i64 m = Value.int .i64 (wrap64 (m + sumTo z 0))) := by
        show Value.int .i64 m = Value.int .i64 (wrap64 (m + 0)); rw [e1]
      clear e1 e2 hp
      go_loopw [13, 14, 15] (fun wm d i wr => ∃ k : Nat, k ≤ n ∧ i = .int .i64 k ∧ wm = .int .i64 (wrap64 (m + sumTo z k)) ∧ d = .int .i64 (dn (sumTo z k)) ∧ PaceAt wr p D (lf l (sumTo z k)) (wrap64 (m + sumTo z k)) t ∧ Below p w2 wr) (fun _ _ i _ => n - (intOf i).toNat)
      case atStart => exact ⟨0, Nat.zero_le _, rfl, HE.out, rfl, hst, Below.refl _ _⟩
      case round =>
        clear hst HE
        obtain ⟨k, hk, rfl, rfl, rfl, hpk, hbk⟩ := hrel
        have hS := sum_nonneg z n HA.out k hk
        have hdr := dn_range (sumTo z k) hS
        obtain ⟨hd0, hd1⟩ := hdr
        by_cases hlt : k < n
        · obtain ⟨rb, ha, hrb, hrow⟩ := HR.out k hlt
          subst ha
          have hz0 := HA.out k hlt
          have hz1 := hz k hlt
          have hrbp : rb < p := by have := hrow.lt; omega
          have hck : wr.cell? ⟨rb, k, none⟩ = some (.int .i64 (z k)) := (hbk.cell (p := ⟨rb, k, none⟩) hrbp).trans ((hb2.cell (p := ⟨rb, k, none⟩) hrow.lt).trans (hrow.cell hlt))
          have HL : Hid (cutLeft (lf l (sumTo z k)) (z k) = lf l (sumTo z (k + 1))) := lf_step l (sumTo z k) (z k) hl hl1 hS hz0 hz1
          have HM : Hid (wrap64 (wrap64 (m + sumTo z k) + z k) = wrap64 (m + sumTo z (k + 1))) := mk_step m (sumTo z k) (z k)
          clear hrow
          go_wp2_with fail
          refine (pieceMade_kept _ p D _ _ t (z k) _ _ HL.out HM.out hpk).mono ?_
          rintro e w3 ⟨rfl, hp3, -, hb3⟩
          have hb3' := hb3 p (Nat.le_refl _)
          have hck3 : w3.cell? ⟨rb, k, none⟩ = some (.int .i64 (z k)) := (hb3'.cell (p := ⟨rb, k, none⟩) hrbp).trans hck
          clear hb3 hck
          by_cases hov : 9223372036854775807 - z k < dn (sumTo z k)
          · have HDn : Hid ((9223372036854775807 : Int) = dn (sumTo z (k + 1))) := dn_hi _ _ hov
            go_wp2
            go_roundw
            case rel => exact ⟨k + 1, by omega, by go_num, by rw [HM.out], by rw [HDn.out], hp3, hbk.trans hb3'⟩
            case measure => simp [intOf]; omega
          · have HDn : Hid (dn (sumTo z k) + z k = dn (sumTo z (k + 1))) := dn_lo _ _ hS hz0 hov
            go_wp2
            go_roundw
            case rel => exact ⟨k + 1, by omega, by go_num, by rw [HM.out], by rw [HDn.out], hp3, hbk.trans hb3'⟩
            case measure => simp [intOf]; omega
        · by_cases hfin : dn (sumTo z k) < l
          · have HF := lf_lt l (sumTo z k) hl1 hfin
            rw [HF] at hpk
            clear HF
            go_wp2_with fail
            refine (paceMade_any _ p D _ _ t hpk).mono ?_
            rintro e _ ⟨rfl, rfl⟩
            go_wp2_with fail
            refine (paceLeft_any _ p D _ _ t hpk).mono ?_
            rintro e _ ⟨rfl, rfl⟩
            go_wp2_with fail
            refine (paceTook_any _ p D _ _ t hpk).mono ?_
            rintro e _ ⟨rfl, rfl⟩
            go_wp2_with fail
            refine (paceDeadline_any _ p D _ _ t hD0 hD1 hpk).mono ?_
            rintro e w4 ⟨rfl, hb4⟩
            go_wp2_with fail
            go_ret
            have z0 := hb1.size
            have z1 := hbk.size
            have z2 := hb12.size
            exact ⟨rfl, hb12.trans ((hbk.mono (by omega)).trans (hb4.mono (by omega)))⟩
          · have HF := lf_ge l (sumTo z k) hl1 hfin
            rw [HF] at hpk
            clear HF
            go_wp2_with fail
            refine (paceMade_any _ p D _ _ t hpk).mono ?_
            rintro e _ ⟨rfl, rfl⟩
            go_wp2_with fail
            refine (paceLeft_any _ p D _ _ t hpk).mono ?_
            rintro e _ ⟨rfl, rfl⟩
            go_wp2_with fail
            refine (paceTook_any _ p D _ _ t hpk).mono ?_
            rintro e _ ⟨rfl, rfl⟩
            go_wp2_with fail
            refine (paceDeadline_any _ p D _ _ t hD0 hD1 hpk).mono ?_
            rintro e w4 ⟨rfl, hb4⟩
            go_wp2_with fail
            go_ret
            have z0 := hb1.size
            have z1 := hbk.size
            have z2 := hb12.size
            exact ⟨rfl, hb12.trans ((hbk.mono (by omega)).trans (hb4.mono (by omega)))⟩

/-- WHAT THE WALK IS TOLD OF A SLICE OF INTEGERS THAT CAME IN: it is nil; or it leads to a row of 'cap' cells, the numbers 'zs' (the first 'len' are its elements, the rest its spare room), each fitting its kind. -/
def IsRow (k : IntKind) (w : World) (a : Option Addr) (len cap : Nat) (zs : List Int) : Prop :=
  (a = none ∧ len = 0 ∧ cap = 0 ∧ zs = []) ∨
  ∃ x, a = some x ∧ len ≤ cap ∧ cap ≤ maxLen ∧ zs.length = cap ∧ (∀ i, i < zs.length → w.cell? (x.add i) = some (.int k (zs.getD i 0))) ∧ ∀ n ∈ zs, (Lit.int k n).wf = true

theorem slIn_of_row {k : IntKind} {w : World} {a : Option Addr} {len cap : Nat} {zs : List Int} (h : IsRow k w a len cap zs) : SlIn w a len cap (fun i => .int k (zs.getD i 0)) := by
  rcases h with ⟨rfl, rfl, rfl, rfl⟩ | ⟨x, rfl, hlc, hm, hz, hc, hw⟩
  · exact .inl ⟨rfl, rfl, rfl⟩
  · rcases Nat.eq_zero_or_pos len with h0 | h0
    · exact .inr (.inl ⟨x, rfl, h0⟩)
    · obtain ⟨b, off, spot⟩ := x
      have hspot : spot = none := by simpa [Addr.add] using World.cell?_spot (hc 0 (by omega))
      subst hspot
      have hcell : ∀ i, i < len → w.cell? ⟨b, off + i, none⟩ = some (.int k (zs.getD i 0)) := fun i hi => by
        rw [← Go.WideShapes.add_plain]; exact hc i (by omega)
      refine .inr (.inr ⟨b, off, rfl, ?_, hcell⟩)
      apply Nat.lt_of_not_le; intro hle
      have := hcell 0 h0
      simp [World.cell?, Array.getElem?_eq_none hle] at this
theorem bounds (a : Int) (h : (Lit.int .i64 a).wf = true) : -9223372036854775808 ≤ a ∧ a ≤ 9223372036854775807 := by
  simpa [Lit.wf, IntKind.min, IntKind.max, IntKind.bits, IntKind.signed] using h
theorem row_le {w : World} {a : Option Addr} {len cap : Nat} {zs : List Int} (h : IsRow .i64 w a len cap zs) : len ≤ 9223372036854775807 ∧ ∀ j, j < len → zs.getD j 0 ≤ 9223372036854775807 := by
  rcases h with ⟨rfl, rfl, rfl, rfl⟩ | ⟨x, rfl, hlc, hm, hz, hc, hw⟩
  · exact ⟨by omega, fun j hj => absurd hj (by omega)⟩
  · refine ⟨by unfold maxLen at hm; omega, fun j hj => ?_⟩
    have hj' : j < zs.length := by omega
    have : zs.getD j 0 ∈ zs := by rw [List.getD_eq_getElem?_getD, List.getElem?_eq_getElem hj', Option.getD_some]; exact List.getElem_mem hj'
    exact (bounds _ (hw _ this)).2

theorem walk (a0 : Int) (a1 : Int) (a2 : Int) (a3 : Int) (a4 : Option Addr) (len4 cap4 : Nat) (z4 : List Int) (w : World) (w0 : (Lit.int .i64 a0).wf = true) (w1 : (Lit.int .i64 a1).wf = true) (w2 : (Lit.int .i64 a2).wf = true) (w4 : IsRow .i64 w a4 len4 cap4 z4) :
    Calls Trym.prog 5 #[.int .i64 a0, .int .i64 a1, .int .i64 a2, .int .i64 a3, .slice a4 len4 cap4] w fun e w' => e = .returned (.bool true) ∧ Below w.heap.size w w' := by
  obtain ⟨p0, p1⟩ := bounds a0 w0
  obtain ⟨q0, q1⟩ := bounds a1 w1
  obtain ⟨r0, r1⟩ := bounds a2 w2
  obtain ⟨hlen, hz⟩ := row_le w4
  have hin := slIn_of_row w4
  by_cases c1 : 1048576 < len4
  · clear hin w4 hz
    go_enter Trym.func5, Trym.ntmps5
    go_wp2_with fail
    refine (zzBytes_no a0 a1 a2 a3 a4 len4 cap4 c1 hlen _).mono ?_
    rintro e w' ⟨rfl, hw⟩
    subst hw
    go_wp2_with fail
    go_ret
    exact ⟨rfl, Below.refl _ _⟩
  by_cases c2 : 65536 < len4
  · clear hin w4 hz
    go_enter Trym.func5, Trym.ntmps5
    go_wp2_with fail
    refine (zzBytes_yes a0 a1 a2 a3 a4 len4 cap4 (by omega) _).mono ?_
    rintro e w' ⟨rfl, hw⟩
    subst hw
    go_wp2_with fail
    go_ret
    exact ⟨rfl, Below.refl _ _⟩
  by_cases c3 : a1 < 0
  · clear hin w4 hz
    go_enter Trym.func5, Trym.ntmps5
    go_wp2_with fail
    refine (zzBytes_yes a0 a1 a2 a3 a4 len4 cap4 (by omega) _).mono ?_
    rintro e w' ⟨rfl, hw⟩
    subst hw
    go_wp2_with fail
    go_ret
    exact ⟨rfl, Below.refl _ _⟩
  · exact main a0 a1 a2 a3 a4 len4 cap4 (fun i => z4.getD i 0) p0 p1 (by omega) q1 r0 r1 (by omega) w hin hz
end Go.Proofs.Qxb6603509aMods.fnPacePieceMadeScriptInOneSum
