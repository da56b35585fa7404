/-
  A SCRIPT OF PUTS: what is known of its five slices besides seqs; zzRow; zzScriptBytes; zzBytes.
-/
import Derived.Test.Qxb6603509aModsPut3
namespace Go.Proofs.Qxb6603509aMods
open Go.RowKit

/-- The five slices of a script, as values. -/
structure Scr where
  aP : Option Addr
  nP : Nat
  cP : Nat
  lenP : Nat → Nat
  aR : Option Addr
  nR : Nat
  cR : Nat
  lenR : Nat → Nat
  aE : Option Addr
  nE : Nat
  cE : Nat
  zE : Nat → ByteArray
  aD : Option Addr
  nD : Nat
  cD : Nat
  zD : Nat → Bool
  aF : Option Addr
  nF : Nat
  cF : Nat
  zF : Nat → Bool

/-- They can be read in w. -/
structure ScrIn (w : World) (S : Scr) : Prop where
  P : RdBs w S.aP S.nP S.cP S.lenP
  R : RdBs w S.aR S.nR S.cR S.lenR
  E : SlIn w S.aE S.nE S.cE (fun i => .string (S.zE i))
  D : SlIn w S.aD S.nD S.cD (fun i => .bool (S.zD i))
  F : SlIn w S.aF S.nF S.cF (fun i => .bool (S.zF i))

theorem ScrIn.below {w w' : World} {S : Scr} (h : ScrIn w S) (hb : Below w.heap.size w w') : ScrIn w' S :=
  ⟨h.P.below hb, h.R.below hb, h.E.below hb, h.D.below hb, h.F.below hb⟩

/-- How long they are. -/
structure Scr.Small (S : Scr) : Prop where
  P : S.nP ≤ 4096
  R : S.nR ≤ 4096
  E : S.nE ≤ 4096
  D : S.nD ≤ 4096
  F : S.nF ≤ 4096
  lP : ∀ i, i < S.nP → S.lenP i ≤ 1048576
  lR : ∀ i, i < S.nR → S.lenR i ≤ 1048576

/-- Does step k drop? -/
def Scr.drop (S : Scr) (k : Nat) : Bool := if k < S.nD then S.zD k else false
/-- The bytes that step k's row counts. -/
def Scr.pl (S : Scr) (k : Nat) : Nat := if k < S.nP then S.lenP k else 0
def Scr.rl (S : Scr) (k : Nat) : Nat := if k < S.nR then S.lenR k else 0
def Scr.size (S : Scr) (k : Nat) : Int := (S.pl k : Int) + (S.rl k : Int)

theorem Scr.Small.pl_le {S : Scr} (h : S.Small) (k : Nat) : S.pl k ≤ 1048576 := by
  unfold Scr.pl; split
  · rename_i hk; exact h.lP k hk
  · omega
theorem Scr.Small.rl_le {S : Scr} (h : S.Small) (k : Nat) : S.rl k ≤ 1048576 := by
  unfold Scr.rl; split
  · rename_i hk; exact h.lR k hk
  · omega

set_option maxHeartbeats 2000000 in
theorem zzRow_drop (S : Scr) (hS : S.Small) (w : World) (h : ScrIn w S) (k : Nat) (hk : k ≤ 4096) (hd : S.drop k = true) :
    Calls Trym.prog 16 #[.slice S.aP S.nP S.cP, .slice S.aR S.nR S.cR, .slice S.aE S.nE S.cE, .slice S.aD S.nD S.cD, .slice S.aF S.nF S.cF, .int .i64 k] w fun e w' => e = .returned (.pointer none) ∧ w' = w := by
  have H : Hid (Calls Trym.prog 49 #[.slice S.aD S.nD S.cD, .int .i64 k] w fun e w' => e = .returned (.bool (S.drop k)) ∧ w' = w) := boolAt_any w S.aD S.nD S.cD S.zD h.D (by have := hS.D; omega) k (by omega)
  clear h
  obtain ⟨aP, nP, cP, lenP, aR, nR, cR, lenR, aE, nE, cE, zE, aD, nD, cD, zD, aF, nF, cF, zF⟩ := S
  go_enter Trym.func16, Trym.ntmps16
  go_wp2_with fail
  refine H.out.mono ?_
  rintro e _ ⟨rfl, rfl⟩
  rw [hd]
  go_wp2_with fail
  go_ret
  exact ⟨rfl, rfl⟩

set_option maxHeartbeats 2000000 in
theorem zzRow_row (S : Scr) (hS : S.Small) (w : World) (h : ScrIn w S) (k : Nat) (hk : k ≤ 4096) (hd : S.drop k = false) :
    Calls Trym.prog 16 #[.slice S.aP S.nP S.cP, .slice S.aR S.nR S.cR, .slice S.aE S.nE S.cE, .slice S.aD S.nD S.cD, .slice S.aF S.nF S.cF, .int .i64 k] w fun e w' => ∃ p, e = .returned (.pointer (some ⟨p, 0, none⟩)) ∧ w.heap.size ≤ p ∧ p < w'.heap.size ∧ RowAt w' p (S.size k) ∧ Below w.heap.size w w' := by
  have hp := hS.pl_le k
  have hr := hS.rl_le k
  go_enter Trym.func16, Trym.ntmps16
  go_wp2_with fail
  refine (boolAt_any w S.aD S.nD S.cD S.zD h.D (by have := hS.D; omega) k (by omega)).mono ?_
  rintro e _ ⟨rfl, rfl⟩
  rw [show (if k < S.nD then S.zD k else false) = false from hd]
  go_wp2_with fail
  refine (bytesAt_any _ S.aP S.nP S.cP S.lenP h.P (by have := hS.P; omega) k (by omega)).mono ?_
  rintro e _ ⟨v1, rfl, hv1, rfl⟩
  go_wp2_with fail
  refine (cloneB_at _ v1 (S.pl k) hp hv1).mono ?_
  rintro e w1 ⟨v2, rfl, hv2, -, hb1⟩
  have h1 := h.below hb1
  go_wp2_with fail
  refine (bytesAt_any _ S.aR S.nR S.cR S.lenR h1.R (by have := hS.R; omega) k (by omega)).mono ?_
  rintro e _ ⟨v3, rfl, hv3, rfl⟩
  go_wp2_with fail
  refine (cloneB_at _ v3 (S.rl k) hr hv3).mono ?_
  rintro e w2 ⟨v4, rfl, hv4, -, hb2⟩
  have h2 := h1.below hb2
  go_wp2_with fail
  refine (stringAt_any _ S.aE S.nE S.cE S.zE h2.E (by have := hS.E; omega) k (by omega)).mono ?_
  rintro e _ ⟨⟨s, rfl⟩, rfl⟩
  go_wp2_with fail
  refine (boolAt_any _ S.aF S.nF S.cF S.zF h2.F (by have := hS.F; omega) k (by omega)).mono ?_
  rintro e _ ⟨rfl, rfl⟩
  obtain ⟨a2, c2, z2, e2, -⟩ := hv2
  obtain ⟨a4, c4, z4, e4, -⟩ := hv4
  subst e2 e4
  go_wp2_with fail
  refine (newRow_any a2 a4 (S.pl k) c2 (S.rl k) c4 s _ hp hr _).mono ?_
  rintro e w3 ⟨rfl, hrow, hb3⟩
  go_wp2_with fail
  go_ret
  have z1 := hb1.size
  have z2 := hb2.size
  refine ⟨_, rfl, by omega, ?_, hrow, hb1.trans ((hb2.mono (by omega)).trans (hb3.mono (by omega)))⟩
  obtain ⟨_, _, _, _, _, _, hc, _⟩ := hrow
  obtain ⟨c, t, fz, hblk⟩ := cells_of_cell hc
  exact (Array.getElem?_eq_some_iff.1 hblk).1
end Go.Proofs.Qxb6603509aMods
