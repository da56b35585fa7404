/-
  THE WALK of 'FnBufferedPutReplacesRemovesAndRestores', its guards too.
-/
import Derived.Test.Qxb6603509aModsReplWalk
namespace Go.Proofs.Qxb6603509aMods.fnBufferedPutReplacesRemovesAndRestores
open Go.RowKit Go.Proofs.Qxb6603509aMods

set_option maxRecDepth 100000 in
set_option maxHeartbeats 8000000 in
theorem long (aS : Option Addr) (n cS : Nat) (S : Scr) (sq : Int) (aL : Option Addr) (nL cL : Nat) (aK : Option Addr) (nK cK : Nat) (sE : ByteArray) (df : Bool) (w : World) (hin : ScrIn w S) (h : 4096 < n ∨ 4096 < S.nP ∨ 4096 < S.nR ∨ 4096 < S.nE ∨ 4096 < S.nD ∨ 4096 < S.nF ∨ 1048576 < nL ∨ 1048576 < nK ∨ 1048576 < sE.size) :
    Calls Trym.prog 4 #[.slice aS n cS, .slice S.aP S.nP S.cP, .slice S.aR S.nR S.cR, .slice S.aE S.nE S.cE, .slice S.aD S.nD S.cD, .slice S.aF S.nF S.cF, .int .i64 sq, .slice aL nL cL, .slice aK nK cK, .string sE, .bool df] w fun e w' => e = .returned (.bool true) ∧ Below w.heap.size w w' := by
  have HZ := zzBytes25_any aS n cS S sq aL nL cL aK nK cK sE df w hin
  clear hin
  obtain ⟨aP, nP, cP, lenP, aR, nR, cR, lenR, aE, nE, cE, zE, aD, nD, cD, zD, aF, nF, cF, zF⟩ := S
  simp only at h HZ ⊢
  have HH : Hid (Calls Trym.prog 25 #[.slice aS n cS, .slice aP nP cP, .slice aR nR cR, .slice aE nE cE, .slice aD nD cD, .slice aF nF cF, .int .i64 sq, .slice aL nL cL, .slice aK nK cK, .string sE, .bool df] w fun e w' => IsBool e ∧ w' = w) := HZ
  clear HZ
  by_cases g0 : 4096 < n
  · clear h
    have d0 : (4096 : Int) < (n : Int) := by omega
    go_enter Trym.func4, Trym.ntmps4
    go_wp2_with fail
    refine HH.out.mono ?_
    rintro e w' ⟨⟨r, rfl⟩, hw⟩
    have hw := hw.symm
    subst hw
    cases r
    · go_wp2_with fail
      go_ret
      exact ⟨rfl, Below.refl _ _⟩
    · go_wp2_with fail
      go_ret
      exact ⟨rfl, Below.refl _ _⟩
  by_cases g1 : 4096 < nP
  · clear h
    have d1 : (4096 : Int) < (nP : Int) := by omega
    have e0 : decide ((4096 : Int) < (n : Int)) = false := by simp; omega
    go_enter Trym.func4, Trym.ntmps4
    go_wp2_with fail
    refine HH.out.mono ?_
    rintro e w' ⟨⟨r, rfl⟩, hw⟩
    have hw := hw.symm
    subst hw
    cases r
    · go_wp2_with fail
      go_ret
      exact ⟨rfl, Below.refl _ _⟩
    · go_wp2_with fail
      go_ret
      exact ⟨rfl, Below.refl _ _⟩
  by_cases g2 : 4096 < nR
  · clear h
    have d2 : (4096 : Int) < (nR : Int) := by omega
    have e0 : decide ((4096 : Int) < (n : Int)) = false := by simp; omega
    have e1 : decide ((4096 : Int) < (nP : Int)) = false := by simp; omega
    go_enter Trym.func4, Trym.ntmps4
    go_wp2_with fail
    refine HH.out.mono ?_
    rintro e w' ⟨⟨r, rfl⟩, hw⟩
    have hw := hw.symm
    subst hw
    cases r
    · go_wp2_with fail
      go_ret
      exact ⟨rfl, Below.refl _ _⟩
    · go_wp2_with fail
      go_ret
      exact ⟨rfl, Below.refl _ _⟩
  by_cases g3 : 4096 < nE
  · clear h
    have d3 : (4096 : Int) < (nE : Int) := by omega
    have e0 : decide ((4096 : Int) < (n : Int)) = false := by simp; omega
    have e1 : decide ((4096 : Int) < (nP : Int)) = false := by simp; omega
    have e2 : decide ((4096 : Int) < (nR : Int)) = false := by simp; omega
    go_enter Trym.func4, Trym.ntmps4
    go_wp2_with fail
    refine HH.out.mono ?_
    rintro e w' ⟨⟨r, rfl⟩, hw⟩
    have hw := hw.symm
    subst hw
    cases r
    · go_wp2_with fail
      go_ret
      exact ⟨rfl, Below.refl _ _⟩
    · go_wp2_with fail
      go_ret
      exact ⟨rfl, Below.refl _ _⟩
  by_cases g4 : 4096 < nD
  · clear h
    have d4 : (4096 : Int) < (nD : Int) := by omega
    have e0 : decide ((4096 : Int) < (n : Int)) = false := by simp; omega
    have e1 : decide ((4096 : Int) < (nP : Int)) = false := by simp; omega
    have e2 : decide ((4096 : Int) < (nR : Int)) = false := by simp; omega
    have e3 : decide ((4096 : Int) < (nE : Int)) = false := by simp; omega
    go_enter Trym.func4, Trym.ntmps4
    go_wp2_with fail
    refine HH.out.mono ?_
    rintro e w' ⟨⟨r, rfl⟩, hw⟩
    have hw := hw.symm
    subst hw
    cases r
    · go_wp2_with fail
      go_ret
      exact ⟨rfl, Below.refl _ _⟩
    · go_wp2_with fail
      go_ret
      exact ⟨rfl, Below.refl _ _⟩
  by_cases g5 : 4096 < nF
  · clear h
    have d5 : (4096 : Int) < (nF : Int) := by omega
    have e0 : decide ((4096 : Int) < (n : Int)) = false := by simp; omega
    have e1 : decide ((4096 : Int) < (nP : Int)) = false := by simp; omega
    have e2 : decide ((4096 : Int) < (nR : Int)) = false := by simp; omega
    have e3 : decide ((4096 : Int) < (nE : Int)) = false := by simp; omega
    have e4 : decide ((4096 : Int) < (nD : Int)) = false := by simp; omega
    go_enter Trym.func4, Trym.ntmps4
    go_wp2_with fail
    refine HH.out.mono ?_
    rintro e w' ⟨⟨r, rfl⟩, hw⟩
    have hw := hw.symm
    subst hw
    cases r
    · go_wp2_with fail
      go_ret
      exact ⟨rfl, Below.refl _ _⟩
    · go_wp2_with fail
      go_ret
      exact ⟨rfl, Below.refl _ _⟩
  by_cases g6 : 1048576 < nL
  · clear h
    have d6 : (1048576 : Int) < (nL : Int) := by omega
    have e0 : decide ((4096 : Int) < (n : Int)) = false := by simp; omega
    have e1 : decide ((4096 : Int) < (nP : Int)) = false := by simp; omega
    have e2 : decide ((4096 : Int) < (nR : Int)) = false := by simp; omega
    have e3 : decide ((4096 : Int) < (nE : Int)) = false := by simp; omega
    have e4 : decide ((4096 : Int) < (nD : Int)) = false := by simp; omega
    have e5 : decide ((4096 : Int) < (nF : Int)) = false := by simp; omega
    go_enter Trym.func4, Trym.ntmps4
    go_wp2_with fail
    refine HH.out.mono ?_
    rintro e w' ⟨⟨r, rfl⟩, hw⟩
    have hw := hw.symm
    subst hw
    cases r
    · go_wp2_with fail
      go_ret
      exact ⟨rfl, Below.refl _ _⟩
    · go_wp2_with fail
      go_ret
      exact ⟨rfl, Below.refl _ _⟩
  by_cases g7 : 1048576 < nK
  · clear h
    have d7 : (1048576 : Int) < (nK : Int) := by omega
    have e0 : decide ((4096 : Int) < (n : Int)) = false := by simp; omega
    have e1 : decide ((4096 : Int) < (nP : Int)) = false := by simp; omega
    have e2 : decide ((4096 : Int) < (nR : Int)) = false := by simp; omega
    have e3 : decide ((4096 : Int) < (nE : Int)) = false := by simp; omega
    have e4 : decide ((4096 : Int) < (nD : Int)) = false := by simp; omega
    have e5 : decide ((4096 : Int) < (nF : Int)) = false := by simp; omega
    have e6 : decide ((1048576 : Int) < (nL : Int)) = false := by simp; omega
    go_enter Trym.func4, Trym.ntmps4
    go_wp2_with fail
    refine HH.out.mono ?_
    rintro e w' ⟨⟨r, rfl⟩, hw⟩
    have hw := hw.symm
    subst hw
    cases r
    · go_wp2_with fail
      go_ret
      exact ⟨rfl, Below.refl _ _⟩
    · go_wp2_with fail
      go_ret
      exact ⟨rfl, Below.refl _ _⟩
  by_cases g8 : 1048576 < sE.size
  · clear h
    have d8 : (1048576 : Int) < (sE.size : Int) := by omega
    have e0 : decide ((4096 : Int) < (n : Int)) = false := by simp; omega
    have e1 : decide ((4096 : Int) < (nP : Int)) = false := by simp; omega
    have e2 : decide ((4096 : Int) < (nR : Int)) = false := by simp; omega
    have e3 : decide ((4096 : Int) < (nE : Int)) = false := by simp; omega
    have e4 : decide ((4096 : Int) < (nD : Int)) = false := by simp; omega
    have e5 : decide ((4096 : Int) < (nF : Int)) = false := by simp; omega
    have e6 : decide ((1048576 : Int) < (nL : Int)) = false := by simp; omega
    have e7 : decide ((1048576 : Int) < (nK : Int)) = false := by simp; omega
    go_enter Trym.func4, Trym.ntmps4
    go_wp2_with fail
    refine HH.out.mono ?_
    rintro e w' ⟨⟨r, rfl⟩, hw⟩
    have hw := hw.symm
    subst hw
    cases r
    · go_wp2_with fail
      go_ret
      exact ⟨rfl, Below.refl _ _⟩
    · go_wp2_with fail
      go_ret
      exact ⟨rfl, Below.refl _ _⟩
  · exfalso; omega

/-- THE WALK. -/
theorem walk (aS : Option Addr) (n cS : Nat) (z : Nat → Int) (S : Scr) (sq : Int) (aL : Option Addr) (nL cL : Nat) (aK : Option Addr) (nK cK : Nat) (sE : ByteArray) (df : Bool) (w : World) (hin : ScrIn w S) (hz : SlIn w aS n cS (fun i => .int .i64 (z i)))
    (hL : RdB w (.slice aL nL cL) nL) (hK : RdB w (.slice aK nK cK) nK) :
    Calls Trym.prog 4 #[.slice aS n cS, .slice S.aP S.nP S.cP, .slice S.aR S.nR S.cR, .slice S.aE S.nE S.cE, .slice S.aD S.nD S.cD, .slice S.aF S.nF S.cF, .int .i64 sq, .slice aL nL cL, .slice aK nK cK, .string sE, .bool df] w fun e w' => e = .returned (.bool true) ∧ Below w.heap.size w w' := by
  by_cases h : 4096 < n ∨ 4096 < S.nP ∨ 4096 < S.nR ∨ 4096 < S.nE ∨ 4096 < S.nD ∨ 4096 < S.nF ∨ 1048576 < nL ∨ 1048576 < nK ∨ 1048576 < sE.size
  · exact long aS n cS S sq aL nL cL aK nK cK sE df w hin h
  · exact main aS n cS z S sq aL nL cL aK nK cK sE df w hin hz hL hK (by omega) (by omega) (by omega) (by omega) (by omega) (by omega) (by omega) (by omega) (by omega)
end Go.Proofs.Qxb6603509aMods.fnBufferedPutReplacesRemovesAndRestores
