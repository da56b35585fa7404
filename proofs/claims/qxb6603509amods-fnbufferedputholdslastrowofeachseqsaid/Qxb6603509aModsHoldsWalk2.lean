/-
  THE WALK of 'FnBufferedPutHoldsLastRowOfEachSeq', its guards too.
-/
import Derived.Test.Qxb6603509aModsHoldsWalk
namespace Go.Proofs.Qxb6603509aMods.fnBufferedPutHoldsLastRowOfEachSeq
open Go.RowKit Go.Proofs.Qxb6603509aMods

set_option maxRecDepth 100000 in
set_option maxHeartbeats 4000000 in
theorem long (aS : Option Addr) (n cS : Nat) (S : Scr) (w : World) (hin : ScrIn w S) (h : 4096 < n ∨ 4096 < S.nP ∨ 4096 < S.nR ∨ 4096 < S.nE ∨ 4096 < S.nD ∨ 4096 < S.nF) :
    Calls Trym.prog 3 #[.slice aS n cS, .slice S.aP S.nP S.cP, .slice S.aR S.nR S.cR, .slice S.aE S.nE S.cE, .slice S.aD S.nD S.cD, .slice S.aF S.nF S.cF] w fun e w' => e = .returned (.bool true) ∧ Below w.heap.size w w' := by
  have HZ := zzBytes9_any aS n cS S w hin
  clear hin
  obtain ⟨aP, nP, cP, lenP, aR, nR, cR, lenR, aE, nE, cE, zE, aD, nD, cD, zD, aF, nF, cF, zF⟩ := S
  simp only at h HZ ⊢
  have HH : Hid (Calls Trym.prog 9 #[.slice aS n cS, .slice aP nP cP, .slice aR nR cR, .slice aE nE cE, .slice aD nD cD, .slice aF nF cF] w fun e w' => IsBool e ∧ w' = w) := HZ
  clear HZ
  by_cases g0 : 4096 < n
  · clear h
    have d0 : (4096 : Int) < (n : Int) := by omega
    go_enter Trym.func3, Trym.ntmps3
    go_wp2_with fail
    refine HH.out.mono ?_
    rintro e w' ⟨⟨r, rfl⟩, hw⟩
    have hw := hw.symm
    subst hw
    cases r
    · go_wp2_with fail
      go_ret
      exact ⟨rfl, Below.refl _ _⟩
    · go_wp2_with fail
      go_ret
      exact ⟨rfl, Below.refl _ _⟩
  by_cases g1 : 4096 < nP
  · clear h
    have d1 : (4096 : Int) < (nP : Int) := by omega
    have e0 : decide ((4096 : Int) < (n : Int)) = false := by simp; omega
    go_enter Trym.func3, Trym.ntmps3
    go_wp2_with fail
    refine HH.out.mono ?_
    rintro e w' ⟨⟨r, rfl⟩, hw⟩
    have hw := hw.symm
    subst hw
    cases r
    · go_wp2_with fail
      go_ret
      exact ⟨rfl, Below.refl _ _⟩
    · go_wp2_with fail
      go_ret
      exact ⟨rfl, Below.refl _ _⟩
  by_cases g2 : 4096 < nR
  · clear h
    have d2 : (4096 : Int) < (nR : Int) := by omega
    have e0 : decide ((4096 : Int) < (n : Int)) = false := by simp; omega
    have e1 : decide ((4096 : Int) < (nP : Int)) = false := by simp; omega
    go_enter Trym.func3, Trym.ntmps3
    go_wp2_with fail
    refine HH.out.mono ?_
    rintro e w' ⟨⟨r, rfl⟩, hw⟩
    have hw := hw.symm
    subst hw
    cases r
    · go_wp2_with fail
      go_ret
      exact ⟨rfl, Below.refl _ _⟩
    · go_wp2_with fail
      go_ret
      exact ⟨rfl, Below.refl _ _⟩
  by_cases g3 : 4096 < nE
  · clear h
    have d3 : (4096 : Int) < (nE : Int) := by omega
    have e0 : decide ((4096 : Int) < (n : Int)) = false := by simp; omega
    have e1 : decide ((4096 : Int) < (nP : Int)) = false := by simp; omega
    have e2 : decide ((4096 : Int) < (nR : Int)) = false := by simp; omega
    go_enter Trym.func3, Trym.ntmps3
    go_wp2_with fail
    refine HH.out.mono ?_
    rintro e w' ⟨⟨r, rfl⟩, hw⟩
    have hw := hw.symm
    subst hw
    cases r
    · go_wp2_with fail
      go_ret
      exact ⟨rfl, Below.refl _ _⟩
    · go_wp2_with fail
      go_ret
      exact ⟨rfl, Below.refl _ _⟩
  by_cases g4 : 4096 < nD
  · clear h
    have d4 : (4096 : Int) < (nD : Int) := by omega
    have e0 : decide ((4096 : Int) < (n : Int)) = false := by simp; omega
    have e1 : decide ((4096 : Int) < (nP : Int)) = false := by simp; omega
    have e2 : decide ((4096 : Int) < (nR : Int)) = false := by simp; omega
    have e3 : decide ((4096 : Int) < (nE : Int)) = false := by simp; omega
    go_enter Trym.func3, Trym.ntmps3
    go_wp2_with fail
    refine HH.out.mono ?_
    rintro e w' ⟨⟨r, rfl⟩, hw⟩
    have hw := hw.symm
    subst hw
    cases r
    · go_wp2_with fail
      go_ret
      exact ⟨rfl, Below.refl _ _⟩
    · go_wp2_with fail
      go_ret
      exact ⟨rfl, Below.refl _ _⟩
  by_cases g5 : 4096 < nF
  · clear h
    have d5 : (4096 : Int) < (nF : Int) := by omega
    have e0 : decide ((4096 : Int) < (n : Int)) = false := by simp; omega
    have e1 : decide ((4096 : Int) < (nP : Int)) = false := by simp; omega
    have e2 : decide ((4096 : Int) < (nR : Int)) = false := by simp; omega
    have e3 : decide ((4096 : Int) < (nE : Int)) = false := by simp; omega
    have e4 : decide ((4096 : Int) < (nD : Int)) = false := by simp; omega
    go_enter Trym.func3, Trym.ntmps3
    go_wp2_with fail
    refine HH.out.mono ?_
    rintro e w' ⟨⟨r, rfl⟩, hw⟩
    have hw := hw.symm
    subst hw
    cases r
    · go_wp2_with fail
      go_ret
      exact ⟨rfl, Below.refl _ _⟩
    · go_wp2_with fail
      go_ret
      exact ⟨rfl, Below.refl _ _⟩
  · exfalso; omega

/-- THE WALK. -/
theorem walk (aS : Option Addr) (n cS : Nat) (z : Nat → Int) (S : Scr) (w : World) (hin : ScrIn w S) (hz : SlIn w aS n cS (fun i => .int .i64 (z i))) :
    Calls Trym.prog 3 #[.slice aS n cS, .slice S.aP S.nP S.cP, .slice S.aR S.nR S.cR, .slice S.aE S.nE S.cE, .slice S.aD S.nD S.cD, .slice S.aF S.nF S.cF] w fun e w' => e = .returned (.bool true) ∧ Below w.heap.size w w' := by
  by_cases h : 4096 < n ∨ 4096 < S.nP ∨ 4096 < S.nR ∨ 4096 < S.nE ∨ 4096 < S.nD ∨ 4096 < S.nF
  · exact long aS n cS S w hin h
  · exact main aS n cS z S w hin hz (by omega) (by omega) (by omega) (by omega) (by omega) (by omega)
end Go.Proofs.Qxb6603509aMods.fnBufferedPutHoldsLastRowOfEachSeq
