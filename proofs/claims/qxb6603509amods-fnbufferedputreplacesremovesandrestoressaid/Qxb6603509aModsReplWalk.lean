/-
  THE WALK of 'FnBufferedPutReplacesRemovesAndRestores', past its guards.
-/
import Derived.Test.Qxb6603509aModsOthers
import Derived.Test.Qxb6603509aModsHoldsWalk
namespace Go.Proofs.Qxb6603509aMods.fnBufferedPutReplacesRemovesAndRestores
open Go.RowKit Go.Proofs.Qxb6603509aMods
open Go.Proofs.Qxb6603509aMods.fnBufferedPutHoldsLastRowOfEachSeq (re rowOf_none rowOf_set rowOf_row)

theorem upd_at (M : Int → Option Nat) (s : Int) (v : Option Nat) : upd M s v s = v := by unfold upd; rw [if_pos rfl]
theorem upd_ne (M : Int → Option Nat) {s t : Int} (v : Option Nat) (h : t ≠ s) : upd M s v t = M t := by unfold upd; rw [if_neg h]

theorem put_to {w : World} {b : Nat} {M : Int → Option Nat} {N : Nat} {y : Int} {sz : Nat → Int} (h : BufAt w b M N y sz) (y0 : -4398046511104 ≤ y) (y1 : y ≤ 4398046511104) (s : Int) (r : Option Nat) (hr : ∀ p, r = some p → p ≠ b ∧ RowAt w p (sz p)) {N' : Nat} {y' : Int} (e2 : cntP (M s) r N = N') (e3 : y - osz sz (M s) + osz sz r = y') :
    Calls Trym.prog 17 #[.pointer (some ⟨b, 0, none⟩), .int .i64 s, ptrOf r] w fun e w' => e = .returned (.tuple #[]) ∧ BufAt w' b (upd M s r) N' y' sz ∧ Kept b w w' ∧ Below b w w' := by
  subst e2 e3
  exact put_any w b M N y sz h y0 y1 s r hr

theorem with_row {wM w3 : World} {b : Nat} {M : Int → Option Nat} {N : Nat} {Y : Int} {sz : Nat → Int} {p : Nat} (L : Int) (hB : BufAt wM b M N Y sz) (hb : Below wM.heap.size wM w3) (hp : wM.heap.size ≤ p) : BufAt w3 b M N Y (setZ sz p L) ∧ (∀ s q, M s = some q → setZ sz p L q = sz q ∧ q ≠ p) := by
  have key : ∀ s q, M s = some q → setZ sz p L q = sz q ∧ q ≠ p := by
    intro s q hs
    have := (hB.rows s q hs).2.lt
    refine ⟨?_, by omega⟩
    unfold setZ; rw [if_neg (by omega)]
  exact ⟨(hB.below hb).reweigh fun s q hs => (key s q hs).1, key⟩

theorem stored2 {wr : World} {ob okb m n : Nat} {M : Int → Option Nat} {z : Nat → Int} (h1 : wr.rowIs ob 35 n (part m (fun j => ptrOf (M (z j))) (.pointer none))) (h2 : wr.rowIs okb 4 n (part m (fun j => .bool (M (z j)).isSome) (.bool false))) (hne : ob ≠ okb) (v1 v2 : Value) (e1 : ptrOf (M (z m)) = v1) (e2 : Value.bool (M (z m)).isSome = v2) :
    ((wr.setCell ⟨ob, m, none⟩ v1).setCell ⟨okb, m, none⟩ v2).rowIs ob 35 n (part (m + 1) (fun j => ptrOf (M (z j))) (.pointer none)) ∧ ((wr.setCell ⟨ob, m, none⟩ v1).setCell ⟨okb, m, none⟩ v2).rowIs okb 4 n (part (m + 1) (fun j => .bool (M (z j)).isSome) (.bool false)) := by
  subst e1 e2
  exact ⟨(part_set (f := fun j => ptrOf (M (z j))) h1).setOther (a := ⟨okb, m, none⟩) hne _, part_set (f := fun j => .bool (M (z j)).isSome) (h2.setOther (a := ⟨ob, m, none⟩) (Ne.symm hne) _)⟩

/-- The buffer, the noted rows and the two rows in play, behind each put. -/
structure At (w8 w : World) (M M' : Int → Option Nat) (N : Nat) (y : Int) (sz : Nat → Int) (ob okb n : Nat) (z : Nat → Int) (sq : Int) (p : Nat) : Prop where
  buf : BufAt w w8.heap.size M' N y sz
  o : w.rowIs ob 35 n (fun j => ptrOf (M (z j)))
  k : w.rowIs okb 4 n (fun j => .bool (M (z j)).isSome)
  b : Below w8.heap.size w8 w
  rows : ∀ q, (q = p ∨ M sq = some q) → q ≠ w8.heap.size ∧ RowAt w q (sz q)
  same : ∀ t, t ≠ sq → M' t = M t

section
variable {w8 w : World} {M M' : Int → Option Nat} {N : Nat} {y : Int} {sz : Nat → Int} {ob okb n : Nat} {z : Nat → Int} {sq : Int} {p : Nat}
theorem At.below (h : At w8 w M M' N y sz ob okb n z sq p) {w' : World} (hb : Below w.heap.size w w') : At w8 w' M M' N y sz ob okb n z sq p :=
  ⟨h.buf.below hb, h.o.of_block (hb.block _ h.o.lt), h.k.of_block (hb.block _ h.k.lt), h.b.trans (hb.mono h.b.size), fun q hq => ⟨(h.rows q hq).1, (h.rows q hq).2.kept (Kept.of_below hb) (h.rows q hq).1⟩, h.same⟩
theorem At.others (h : At w8 w M M' N y sz ob okb n z sq p) {aS : Option Addr} {cS : Nat} (hz : SlIn w8 aS n cS (fun i => .int .i64 (z i))) (hn : n ≤ 4096) :
    Calls Trym.prog 30 #[.pointer (some ⟨w8.heap.size, 0, none⟩), .slice aS n cS, .int .i64 sq, .slice (some ⟨ob, 0, none⟩) n n, .slice (some ⟨okb, 0, none⟩) n n] w fun e w' => e = .returned (.bool true) ∧ At w8 w' M M' N y sz ob okb n z sq p := by
  refine (others_any w w8.heap.size M M' N y sz h.buf aS n cS z (hz.below h.b) sq ob okb h.o h.k hn (fun i _ hi => h.same _ hi)).mono ?_
  rintro e w' ⟨rfl, hb⟩
  exact ⟨rfl, h.below hb⟩
theorem At.put (h : At w8 w M M' N y sz ob okb n z sq p) (n1 : ob ≠ w8.heap.size) (n2 : okb ≠ w8.heap.size) (y0 : -4398046511104 ≤ y) (y1 : y ≤ 4398046511104) (r : Option Nat) (hr : ∀ q, r = some q → q = p ∨ M sq = some q) {N' : Nat} {y' : Int} (e2 : cntP (M' sq) r N = N') (e3 : y - osz sz (M' sq) + osz sz r = y') :
    Calls Trym.prog 17 #[.pointer (some ⟨w8.heap.size, 0, none⟩), .int .i64 sq, ptrOf r] w fun e w' => e = .returned (.tuple #[]) ∧ At w8 w' M (upd M' sq r) N' y' sz ob okb n z sq p := by
  refine (put_to h.buf y0 y1 sq r (fun q hq => h.rows q (hr q hq)) e2 e3).mono ?_
  rintro e w' ⟨rfl, hB, hK, hL⟩
  exact ⟨rfl, hB, hK.rowIs n1 h.o, hK.rowIs n2 h.k, h.b.trans hL, fun q hq => ⟨(h.rows q hq).1, (h.rows q hq).2.kept hK (h.rows q hq).1⟩, fun t ht => (upd_ne M' r ht).trans (h.same t ht)⟩
end

set_option maxRecDepth 100000 in
set_option maxHeartbeats 16000000 in
theorem main (aS : Option Addr) (n cS : Nat) (z : Nat → Int) (S : Scr) (sq : Int) (aL : Option Addr) (nL cL : Nat) (aK : Option Addr) (nK cK : Nat) (sE : ByteArray) (df : Bool) (w : World) (hin : ScrIn w S) (hz : SlIn w aS n cS (fun i => .int .i64 (z i)))
    (hL : RdB w (.slice aL nL cL) nL) (hK : RdB w (.slice aK nK cK) nK)
    (h0 : n ≤ 4096) (h1 : S.nP ≤ 4096) (h2 : S.nR ≤ 4096) (h3 : S.nE ≤ 4096) (h4 : S.nD ≤ 4096) (h5 : S.nF ≤ 4096) (h6 : nL ≤ 1048576) (h7 : nK ≤ 1048576) (h8 : sE.size ≤ 1048576) :
    Calls Trym.prog 4 #[.slice aS n cS, .slice S.aP S.nP S.cP, .slice S.aR S.nR S.cR, .slice S.aE S.nE S.cE, .slice S.aD S.nD S.cD, .slice S.aF S.nF S.cF, .int .i64 sq, .slice aL nL cL, .slice aK nK cK, .string sE, .bool df] w fun e w' => e = .returned (.bool true) ∧ Below w.heap.size w w' := by
  have hmk := run_make_row' (P := Trym.prog) 34 35 (.pointer none) 8 Trym.underlying34 info35 rfl .i64 .i64 n (by omega) (by omega)
  have hmk2 := run_make_row' (P := Trym.prog) 25 4 (.bool false) 1 Trym.underlying25 info4 rfl .i64 .i64 n (by omega) (by omega)
  go_enter Trym.func4, Trym.ntmps4
  go_wp2_with fail
  refine (zzBytes25_any aS n cS S sq aL nL cL aK nK cK sE df w hin).mono ?_
  rintro e w' ⟨⟨r, rfl⟩, hw⟩
  have hw := hw.symm
  subst hw
  cases r
  · go_wp2_with fail
    go_ret
    exact ⟨rfl, Below.refl _ _⟩
  go_wp2_with fail
  refine (scriptBytes_any aS n cS S _ hin h0 h1 h2 h3 h4 h5).mono ?_
  rintro e w' ⟨⟨t, rfl, t0, t1, hlen⟩, hw⟩
  have hw := hw.symm
  subst hw
  by_cases ht : 1048576 < t + (nL : Int) + (nK : Int) + (sE.size : Int)
  · go_wp2_with fail
    go_ret
    exact ⟨rfl, Below.refl _ _⟩
  have hS : S.Small := ⟨h1, h2, h3, h4, h5, (hlen (by omega)).1, (hlen (by omega)).2⟩
  clear hlen
  go_wp2_with fail
  refine (cloneInt64s_any aS n cS z (by omega) _ hz).mono ?_
  rintro e w1 ⟨aS1, cS1, rfl, hz1, hb1⟩
  have in1 := hin.below hb1
  go_wp2_with fail
  refine (cloneList_any S.aP S.nP S.cP S.lenP (by omega) hS.lP _ in1.P).mono ?_
  rintro e w2 ⟨aP, cP, rfl, hP, hb2⟩
  have hz2 := hz1.below hb2
  have in2 := in1.below hb2
  go_wp2_with fail
  refine (cloneList_any S.aR S.nR S.cR S.lenR (by omega) hS.lR _ in2.R).mono ?_
  rintro e w3 ⟨aR, cR, rfl, hR, hb3⟩
  have hz3 := hz2.below hb3
  have hP3 := hP.below hb3
  have in3 := in2.below hb3
  go_wp2_with fail
  refine (cloneStrings_any S.aE S.nE S.cE S.zE (by omega) _ in3.E).mono ?_
  rintro e w4 ⟨aE, cE, rfl, hE, hb4⟩
  have hz4 := hz3.below hb4
  have hP4 := hP3.below hb4
  have hR4 := hR.below hb4
  have in4 := in3.below hb4
  go_wp2_with fail
  refine (cloneBools_any S.aD S.nD S.cD S.zD (by omega) _ in4.D).mono ?_
  rintro e w5 ⟨aD, cD, rfl, hD, hb5⟩
  have hz5 := hz4.below hb5
  have hP5 := hP4.below hb5
  have hR5 := hR4.below hb5
  have hE5 := hE.below hb5
  have in5 := in4.below hb5
  go_wp2_with fail
  refine (cloneBools_any S.aF S.nF S.cF S.zF (by omega) _ in5.F).mono ?_
  rintro e w6 ⟨aF, cF, rfl, hF, hb6⟩
  have in6 : ScrIn w6 (re S aP cP aR cR aE cE aD cD aF cF) :=
    ⟨hP5.below hb6, hR5.below hb6, hE5.below hb6, hD.below hb6, hF⟩
  have hz6 := hz5.below hb6
  have hS6 : Scr.Small (re S aP cP aR cR aE cE aD cD aF cF) := ⟨hS.P, hS.R, hS.E, hS.D, hS.F, hS.lP, hS.lR⟩
  have z1 := hb1.size
  have z2 := hb2.size
  have z3 := hb3.size
  have z4 := hb4.size
  have z5 := hb5.size
  have z6 := hb6.size
  have hb06 : Below w.heap.size w w6 := hb1.trans ((hb2.mono (by omega)).trans ((hb3.mono (by omega)).trans ((hb4.mono (by omega)).trans ((hb5.mono (by omega)).trans (hb6.mono (by omega))))))
  have hsz06 : w.heap.size ≤ w6.heap.size := by omega
  have hL6 := hL.below hb06
  have hK6 := hK.below hb06
  clear hL hK hz hz1 hz2 hz3 hz4 hz5 in1 in2 in3 in4 in5 hP hP3 hP4 hP5 hR hR4 hR5 hE hE5 hD hF hb1 hb2 hb3 hb4 hb5 hb6 z1 z2 z3 z4 z5 z6
  go_wp2_with fail
  refine (cloneB_at w6 _ nL h6 hL6).mono ?_
  rintro e w7 ⟨vL, rfl, hL7, -, hb7⟩
  obtain ⟨aL1, cL1, zL, eL, hsL⟩ := hL7
  subst eL
  have hL7 : RdB w7 (.slice aL1 nL cL1) nL := ⟨aL1, cL1, zL, rfl, hsL⟩
  have in7 := in6.below hb7
  have hz7 := hz6.below hb7
  have hK7 := hK6.below hb7
  clear in6 hz6 hL6 hK6 hsL
  go_wp2_with fail
  refine (cloneB_at w7 _ nK h7 hK7).mono ?_
  rintro e w8 ⟨vK, rfl, hK8, -, hb8⟩
  obtain ⟨aK1, cK1, zK, eK, hsK⟩ := hK8
  subst eK
  have hK8 : RdB w8 (.slice aK1 nK cK1) nK := ⟨aK1, cK1, zK, rfl, hsK⟩
  have in8 := in7.below hb8
  have hz8 := hz7.below hb8
  have hL8 := hL7.below hb8
  have z7 := hb7.size
  have z8 := hb8.size
  have hb08 : Below w.heap.size w w8 := hb06.trans ((hb7.mono (by omega)).trans (hb8.mono (by omega)))
  have hsz08 : w.heap.size ≤ w8.heap.size := by omega
  clear in7 hz7 hL7 hK7 hsK hb06 hsz06 hb7 hb8 z7 z8
  go_wp2_with fail
  refine (newBuf_any w8 (fun _ => 0)).mono ?_
  rintro e w9 ⟨rfl, hB9, hb9, hsz9⟩
  clear hsz9
  obtain ⟨S2, hS2⟩ : ∃ S2, S2 = re S aP cP aR cR aE cE aD cD aF cF := ⟨_, rfl⟩
  rw [← hS2] at in8 hS6
  have HRow : Hid (∀ (wr : World) (k : Nat), ScrIn wr S2 → k ≤ 4096 → S2.drop k = false → Calls Trym.prog 16 #[.slice aP S.nP cP, .slice aR S.nR cR, .slice aE S.nE cE, .slice aD S.nD cD, .slice aF S.nF cF, .int .i64 k] wr fun e w' => ∃ p, e = .returned (.pointer (some ⟨p, 0, none⟩)) ∧ wr.heap.size ≤ p ∧ p < w'.heap.size ∧ RowAt w' p (S2.size k) ∧ Below wr.heap.size wr w') := by
    intro wr k hi hk hd; subst hS2; exact zzRow_row _ hS6 wr hi k hk hd
  have HDrop : Hid (∀ (wr : World) (k : Nat), ScrIn wr S2 → k ≤ 4096 → S2.drop k = true → Calls Trym.prog 16 #[.slice aP S.nP cP, .slice aR S.nR cR, .slice aE S.nE cE, .slice aD S.nD cD, .slice aF S.nF cF, .int .i64 k] wr fun e w' => e = .returned (.pointer none) ∧ w' = wr) := by
    intro wr k hi hk hd; subst hS2; exact zzRow_drop _ hS6 wr hi k hk hd
  clear hS2 hin
  have HIn : Hid (ScrIn w8 S2) := in8
  have HZ : Hid (SlIn w8 aS1 n cS1 (fun i => .int .i64 (z i))) := hz8
  have HL : Hid (RdB w8 (.slice aL1 nL cL1) nL) := hL8
  have HK : Hid (RdB w8 (.slice aK1 nK cK1) nK) := hK8
  have HD0 : Hid (Done S2 z w9 w8.heap.size 0 (fun _ => 0) (fun _ => 0)) := done_start hB9 _
  clear in8 hz8 hB9 hL8 hK8
  go_wp2_with fail
  go_loopw [25] (fun i wr => ∃ (k : Nat) (rp : Nat → Nat) (sz : Nat → Int), k ≤ n ∧ i = .int .i64 k ∧ Done S2 z wr w8.heap.size k rp sz ∧ Below w8.heap.size w8 wr) (fun i _ => n - (intOf i).toNat)
  case atStart => exact ⟨0, fun _ => 0, fun _ => 0, Nat.zero_le _, rfl, HD0.out, hb9⟩
  case round =>
    clear HD0
    obtain ⟨k, rp, sz, hk, rfl, hDn, hbel⟩ := hrel
    by_cases hlt : k < n
    · clear hmk hmk2
      have hik := HIn.out.below hbel
      have hzk := HZ.out.below hbel
      obtain ⟨bs, offs, ha, hck⟩ := hzk.at hlt
      have hbs : bs < w8.heap.size := by
        obtain ⟨b', off', ha', hlt', -⟩ := HZ.out.pos hlt
        rw [ha] at ha'; cases ha'; exact hlt'
      subst ha
      have HDn : Hid (Done S2 z wr w8.heap.size k rp sz) := hDn
      have hszr : w8.heap.size < wr.heap.size := hDn.buf.lt
      have i1 : (k : Int) < (n : Int) := by omega
      clear hDn hzk
      cases hd : S2.drop k
      · have he9 : ∀ p, rowOf S2 (setN rp k p) k = some p := fun p => rowOf_set hd
        have HE9 : Hid (∀ p, rowOf S2 (setN rp k p) k = some p) := he9
        clear he9
        go_wp2_with fail
        go_region_held3 (fun X => X.cell? ⟨bs, offs + k, none⟩ = some (.int .i64 (z k))) (simp [go_sem, *])
          (first
          | (go_at_call 16; refine (HRow.out _ k ?_ (by omega) hd).mono ?_; exact hik.below ((Below.refl _ _).drew); rintro e w10 ⟨p, rfl, hp0, hp1, hpr, hb10⟩; have q10 : w10.cell? ⟨bs, offs + k, none⟩ = some (.int .i64 (z k)) := ((hb10.cell (p := ⟨bs, offs + k, none⟩) (by exact Nat.lt_trans hbs hszr)).trans hck); have HF : Hid (Done S2 z w10 w8.heap.size k (setN rp k p) (setZ sz p (S2.size k)) ∧ ∀ q, rowOf S2 (setN rp k p) k = some q → q ≠ w8.heap.size ∧ w8.heap.size < q ∧ RowAt w10 q (setZ sz p (S2.size k) q)) := (HDn.out.fresh (Below.trans (B := wr.heap.size) ((Below.refl _ _).drew) hb10) p hp0 (fun _ => hpr)))
          | (go_at_call 17; refine (put_any _ w8.heap.size (mapOf S2 z (setN rp k p) k) (heldN z S2.drop k) (heldW z S2.drop S2.size k) (setZ sz p (S2.size k)) HF.out.1.buf ?_ ?_ (z k) (some p) ?_).mono ?_; exact (by have := held_range hS6 z k (by omega); omega); exact (by have := held_range hS6 z k (by omega); omega); exact (fun q hq => ⟨(HF.out.2 q (by rw [HE9.out p]; exact hq)).1, (HF.out.2 q (by rw [HE9.out p]; exact hq)).2.2⟩); rintro e w11 ⟨rfl, hB11, hK11, hL11⟩; have q11 : w11.cell? ⟨bs, offs + k, none⟩ = some (.int .i64 (z k)) := ((hL11.cell (p := ⟨bs, offs + k, none⟩) hbs).trans q10)))
        rw [← HE9.out p] at hB11
        have hD' := HF.out.1.put HF.out.2 (fun _ => by unfold setZ setN; rw [if_pos rfl, if_pos rfl]) hB11 hK11
        have hL' : Below w8.heap.size w8 w11 := hbel.trans ((Below.trans (B := w8.heap.size) ((Below.refl _ _).drew) (hb10.mono (Nat.le_of_lt hszr))).trans hL11)
        have HFin : Hid (Done S2 z w11 w8.heap.size (k + 1) (setN rp k p) (setZ sz p (S2.size k)) ∧ Below w8.heap.size w8 w11) := ⟨hD', hL'⟩
        clear hD' hL' hB11 hK11 hL11 HF hb10 hpr hbel hik
        go_wp2
        go_roundw
        case rel => exact ⟨k + 1, _, _, by omega, by go_num, HFin.out.1, HFin.out.2⟩
        case measure => simp [intOf]; omega
      · have HE9 : Hid (∀ p, rowOf S2 (setN rp k p) k = none) := fun p => rowOf_none hd
        obtain ⟨p, hp0⟩ : ∃ p, wr.heap.size ≤ p := ⟨_, Nat.le_refl _⟩
        go_wp2_with fail
        go_region_held3 (fun X => X.cell? ⟨bs, offs + k, none⟩ = some (.int .i64 (z k))) (simp [go_sem, *])
          (first
          | (go_at_call 16; refine (HDrop.out _ k ?_ (by omega) hd).mono ?_; exact hik.below ((Below.refl _ _).drew); rintro e w10 ⟨rfl, hw10⟩; have hb10 : Below wr.heap.size wr w10 := (by rw [hw10]; exact (Below.refl _ _).drew); clear hw10; have q10 : w10.cell? ⟨bs, offs + k, none⟩ = some (.int .i64 (z k)) := ((hb10.cell (p := ⟨bs, offs + k, none⟩) (by exact Nat.lt_trans hbs hszr)).trans hck); have HF : Hid (Done S2 z w10 w8.heap.size k (setN rp k p) (setZ sz p (S2.size k)) ∧ ∀ q, rowOf S2 (setN rp k p) k = some q → q ≠ w8.heap.size ∧ w8.heap.size < q ∧ RowAt w10 q (setZ sz p (S2.size k) q)) := (HDn.out.fresh hb10 p hp0 (fun h => by rw [hd] at h; cases h)))
          | (go_at_call 17; refine (put_any _ w8.heap.size (mapOf S2 z (setN rp k p) k) (heldN z S2.drop k) (heldW z S2.drop S2.size k) (setZ sz p (S2.size k)) HF.out.1.buf ?_ ?_ (z k) none ?_).mono ?_; exact (by have := held_range hS6 z k (by omega); omega); exact (by have := held_range hS6 z k (by omega); omega); exact (fun q hq => by cases hq); rintro e w11 ⟨rfl, hB11, hK11, hL11⟩; have q11 : w11.cell? ⟨bs, offs + k, none⟩ = some (.int .i64 (z k)) := ((hL11.cell (p := ⟨bs, offs + k, none⟩) hbs).trans q10)))
        rw [← HE9.out p] at hB11
        have hD' := HF.out.1.put HF.out.2 (fun _ => by unfold setZ setN; rw [if_pos rfl, if_pos rfl]) hB11 hK11
        have hL' : Below w8.heap.size w8 w11 := hbel.trans ((hb10.mono (Nat.le_of_lt hszr)).trans hL11)
        have HFin : Hid (Done S2 z w11 w8.heap.size (k + 1) (setN rp k p) (setZ sz p (S2.size k)) ∧ Below w8.heap.size w8 w11) := ⟨hD', hL'⟩
        clear hD' hL' hB11 hK11 hL11 HF hb10 hbel hik
        go_wp2
        go_roundw
        case rel => exact ⟨k + 1, _, _, by omega, by go_num, HFin.out.1, HFin.out.2⟩
        case measure => simp [intOf]; omega
    · have hkn : k = n := by omega
      subst hkn
      have hN : heldN z S2.drop k ≤ 4096 := by
        have e := held_count (seq := z) (drop := S2.drop) k
        rw [held_sum] at e
        have := sum_range (seq := z) (drop := S2.drop) one 1 (fun _ => ⟨by unfold one; omega, by unfold one; omega⟩) k k
        omega
      have hY := held_range hS6 z k h0
      have HB : Hid (BufAt wr w8.heap.size (mapOf S2 z rp k) (heldN z S2.drop k) (heldW z S2.drop S2.size k) sz) := hDn.buf
      have hlw := hDn.buf.lt
      generalize mapOf S2 z rp k = M at *
      generalize heldN z S2.drop k = N at *
      generalize heldW z S2.drop S2.size k = Y at *
      obtain ⟨hY0, hY1⟩ := hY
      have HZr : Hid (SlIn wr aS1 k cS1 (fun i => .int .i64 (z i))) := HZ.out.below hbel
      have HLr : Hid (RdB wr (.slice aL1 nL cL1) nL) := HL.out.below hbel
      have HKr : Hid (RdB wr (.slice aK1 nK cK1) nK) := HK.out.below hbel
      have hbelW : Below w.heap.size w wr := hb08.trans (hbel.mono hsz08)
      clear hDn HRow HDrop HIn HL HK hS6 hlt hk
      generalize wr = wL at *
      generalize k = n at *
      go_wp2_with fail
      go_loopw [28] (fun i wr => ∃ m : Nat, m ≤ n ∧ i = .int .i64 m ∧ wr.rowIs wL.heap.size 35 n (part m (fun j => ptrOf (M (z j))) (.pointer none)) ∧ wr.rowIs (wL.heap.size + 1) 4 n (part m (fun j => .bool (M (z j)).isSome) (.bool false)) ∧ Below wL.heap.size wL wr) (fun i _ => n - (intOf i).toNat)
      case atStart =>
        have r2 := World.rowIs_made (wL.alloc (.cells (madeCells #[.pointer none] n) 35)) (.bool false) n 4
        rw [show (wL.alloc (.cells (madeCells #[.pointer none] n) 35)).heap.size = wL.heap.size + 1 by simp] at r2
        exact ⟨0, Nat.zero_le _, rfl, part_none _ ((World.rowIs_made wL (.pointer none) n 35).alloc _), part_none _ r2, ((Below.refl _ _).alloc (Nat.le_refl _) _).alloc (by simp) _⟩
      case round =>
        clear hmk hmk2
        obtain ⟨m, hmn, rfl, hrO, hrK, hbm⟩ := hrel
        by_cases hlt : m < n
        · obtain ⟨bs, offs, ha, hcm⟩ := (HZr.out.below hbm).at hlt
          subst ha
          have HBr : Hid (BufAt wr w8.heap.size M N Y sz) := HB.out.below hbm
          have HO : Hid (wr.rowIs wL.heap.size 35 n (part m (fun j => ptrOf (M (z j))) (.pointer none))) := hrO
          have HOk : Hid (wr.rowIs (wL.heap.size + 1) 4 n (part m (fun j => .bool (M (z j)).isSome) (.bool false))) := hrK
          have o1 := hrO.cell hlt
          have o2 := hrO.frozen m
          have o3 := hrK.cell hlt
          have o4 := hrK.frozen m
          have i1 : (m : Int) < (n : Int) := by omega
          clear hrO hrK
          cases hm : M (z m) with
          | none =>
            have HF : Hid (((wr.setCell ⟨wL.heap.size, m, none⟩ (.pointer none)).setCell ⟨wL.heap.size + 1, m, none⟩ (.bool false)).rowIs wL.heap.size 35 n (part (m + 1) (fun j => ptrOf (M (z j))) (.pointer none)) ∧ ((wr.setCell ⟨wL.heap.size, m, none⟩ (.pointer none)).setCell ⟨wL.heap.size + 1, m, none⟩ (.bool false)).rowIs (wL.heap.size + 1) 4 n (part (m + 1) (fun j => .bool (M (z j)).isSome) (.bool false)) ∧ Below wL.heap.size wL ((wr.setCell ⟨wL.heap.size, m, none⟩ (.pointer none)).setCell ⟨wL.heap.size + 1, m, none⟩ (.bool false))) :=
              ⟨(stored2 HO.out HOk.out (by omega) _ _ (by rw [hm]; rfl) (by rw [hm]; rfl)).1, (stored2 HO.out HOk.out (by omega) _ _ (by rw [hm]; rfl) (by rw [hm]; rfl)).2, (hbm.setCell (p := ⟨wL.heap.size, m, none⟩) (Nat.le_refl _) _).setCell (p := ⟨wL.heap.size + 1, m, none⟩) (Nat.le_succ _) _⟩
            have HM : Hid (M (z m) = none) := hm
            clear hm
            go_wp2_with fail
            refine (row_none HBr.out HM.out).mono ?_
            rintro e _ ⟨rfl, rfl⟩
            go_wp2
            go_roundw
            case rel => exact ⟨m + 1, by omega, by go_num, HF.out.1, HF.out.2.1, HF.out.2.2⟩
            case measure => simp [intOf]; omega
          | some p =>
            have HF : Hid (((wr.setCell ⟨wL.heap.size, m, none⟩ (.pointer (some ⟨p, 0, none⟩))).setCell ⟨wL.heap.size + 1, m, none⟩ (.bool true)).rowIs wL.heap.size 35 n (part (m + 1) (fun j => ptrOf (M (z j))) (.pointer none)) ∧ ((wr.setCell ⟨wL.heap.size, m, none⟩ (.pointer (some ⟨p, 0, none⟩))).setCell ⟨wL.heap.size + 1, m, none⟩ (.bool true)).rowIs (wL.heap.size + 1) 4 n (part (m + 1) (fun j => .bool (M (z j)).isSome) (.bool false)) ∧ Below wL.heap.size wL ((wr.setCell ⟨wL.heap.size, m, none⟩ (.pointer (some ⟨p, 0, none⟩))).setCell ⟨wL.heap.size + 1, m, none⟩ (.bool true))) :=
              ⟨(stored2 HO.out HOk.out (by omega) _ _ (by rw [hm]; rfl) (by rw [hm]; rfl)).1, (stored2 HO.out HOk.out (by omega) _ _ (by rw [hm]; rfl) (by rw [hm]; rfl)).2, (hbm.setCell (p := ⟨wL.heap.size, m, none⟩) (Nat.le_refl _) _).setCell (p := ⟨wL.heap.size + 1, m, none⟩) (Nat.le_succ _) _⟩
            have HM : Hid (M (z m) = some p) := hm
            clear hm
            go_wp2_with fail
            refine (row_some HBr.out HM.out).mono ?_
            rintro e _ ⟨rfl, rfl⟩
            go_wp2
            go_roundw
            case rel => exact ⟨m + 1, by omega, by go_num, HF.out.1, HF.out.2.1, HF.out.2.2⟩
            case measure => simp [intOf]; omega
        · have hmn' : m = n := by omega
          subst hmn'
          have HBr : Hid (BufAt wr w8.heap.size M N Y sz) := HB.out.below hbm
          have HO : Hid (wr.rowIs wL.heap.size 35 m (fun j => ptrOf (M (z j)))) := part_all hrO
          have HOk : Hid (wr.rowIs (wL.heap.size + 1) 4 m (fun j => .bool (M (z j)).isSome)) := part_all hrK
          have HZm : Hid (SlIn wr aS1 m cS1 (fun i => .int .i64 (z i))) := HZr.out.below hbm
          have HLm : Hid (RdB wr (.slice aL1 nL cL1) nL) := HLr.out.below hbm
          have HKm : Hid (RdB wr (.slice aK1 nK cK1) nK) := HKr.out.below hbm
          have hbW : Below w.heap.size w wr := hbelW.trans (hbm.mono hbelW.size)
          have hne1 : wL.heap.size ≠ w8.heap.size := by omega
          have hne2 : wL.heap.size + 1 ≠ w8.heap.size := by omega
          have hlr := HBr.out.lt
          have hb8M : Below w8.heap.size w8 wr := hbel.trans (hbm.mono (Nat.le_of_lt hlw))
          clear hrO hrK HB HZr HLr HKr hbelW hlt hmn
          generalize wL.heap.size + 1 = okb at *
          generalize wL.heap.size = ob at *
          generalize wr = wM at *
          generalize m = n at *
          cases hm : M sq with
          | none =>
            have HM : Hid (M sq = none) := hm
            clear hm
            go_wp2_with fail
            refine (row_none HBr.out HM.out).mono ?_
            rintro e _ ⟨rfl, rfl⟩
            go_wp2_with fail
            refine (bytes_to HBr.out rfl).mono ?_
            rintro e _ ⟨rfl, rfl⟩
            go_wp2_with fail
            refine (count_to HBr.out rfl).mono ?_
            rintro e _ ⟨rfl, rfl⟩
            go_wp2_with fail
            refine (cloneB_at wM _ nL h6 HLm.out).mono ?_
            rintro e w11 ⟨v1, rfl, hv1, -, hb11⟩
            go_wp2_with fail
            refine (cloneB_at w11 _ nK h7 (HKm.out.below hb11)).mono ?_
            rintro e w12 ⟨v2, rfl, hv2, -, hb12⟩
            obtain ⟨aX, cX, zX, eX, -⟩ := hv1
            obtain ⟨aY, cY, zY, eY, -⟩ := hv2
            subst eX eY
            go_wp2_with fail
            refine (newRow_any aX aY nL cX nK cY sE df h6 h7 w12).mono ?_
            rintro e w13 ⟨rfl, hrow, hb13⟩
            have s11 := hb11.size
            have s12 := hb12.size
            have s13 := hb13.size
            have hb : Below wM.heap.size wM w13 := hb11.trans ((hb12.mono s11).trans (hb13.mono (by omega)))
            have hpM : wM.heap.size ≤ w12.heap.size := by omega
            obtain ⟨hB13, hkey⟩ := with_row ((nL : Int) + (nK : Int)) HBr.out hb hpM
            generalize w12.heap.size = p at *
            have hszp : setZ sz p ((nL : Int) + (nK : Int)) p = (nL : Int) + (nK : Int) := by unfold setZ; rw [if_pos rfl]
            have hpb : p ≠ w8.heap.size := by omega
            rw [← hszp] at hrow
            have ho13 := HO.out.of_block (hb.block _ HO.out.lt)
            have hk13 := HOk.out.of_block (hb.block _ HOk.out.lt)
            have h8a : Below w8.heap.size w8 w13 := hb8M.trans (hb.mono (Nat.le_of_lt hlr))
            have hA : Below w.heap.size w w13 := hbW.trans (hb.mono hbW.size)
            have hAt : At w8 w13 M M N Y (setZ sz p ((nL : Int) + (nK : Int))) ob okb n z sq p := ⟨hB13, ho13, hk13, h8a, fun q hq => by
              rcases hq with rfl | hq
              · exact ⟨hpb, hrow⟩
              · exact absurd (HM.out.symm.trans hq) (by intro h; cases h), fun _ _ => rfl⟩
            have HA : Hid (At w8 w13 M M N Y (setZ sz p ((nL : Int) + (nK : Int))) ob okb n z sq p) := hAt
            have HSp : Hid (setZ sz p ((nL : Int) + (nK : Int)) p = (nL : Int) + (nK : Int)) := hszp
            clear hAt hB13 hkey hszp hrow ho13 hk13 hb11 hb12 hb13 hb HLm HKm HO HOk hbW HBr h8a hA hb8M
            generalize setZ sz p ((nL : Int) + (nK : Int)) = sz2 at *
            have hneq := neq_same ⟨p, 0, none⟩
            go_wp2_with fail
            refine (HA.out.put hne1 hne2 (by omega) (by omega) (some p) (fun q hq => by cases hq; exact .inl rfl) (N' := N + 1) (y' := Y + (nL : Int) + (nK : Int)) (by rw [HM.out]; rfl) (by rw [HM.out]; show Y - 0 + sz2 p = _; rw [HSp.out]; omega)).mono ?_
            rintro e w14 ⟨rfl, hA14⟩
            have HA14 : Hid (At w8 w14 M (upd M sq (some p)) (N + 1) (Y + (nL : Int) + (nK : Int)) sz2 ob okb n z sq p) := hA14
            clear hA14
            go_wp2_with fail
            refine (row_some HA14.out.buf (upd_at M sq (some p))).mono ?_
            rintro e _ ⟨rfl, rfl⟩
            go_wp2_with fail
            refine (count_to HA14.out.buf (x := (N : Int) + 1) (by omega)).mono ?_
            rintro e _ ⟨rfl, rfl⟩
            go_wp2_with fail
            refine (bytes_to HA14.out.buf rfl).mono ?_
            rintro e _ ⟨rfl, rfl⟩
            go_wp2_with fail
            refine (HA14.out.others HZ.out h0).mono ?_
            rintro e w15 ⟨rfl, hA15⟩
            have HA15 : Hid (At w8 w15 M (upd M sq (some p)) (N + 1) (Y + (nL : Int) + (nK : Int)) sz2 ob okb n z sq p) := hA15
            clear hA15
            go_wp2_with fail
            refine (HA15.out.put hne1 hne2 (by omega) (by omega) none (fun q hq => by cases hq) (N' := N) (y' := Y) (by rw [upd_at]; rfl) (by rw [upd_at]; show Y + _ + _ - sz2 p + 0 = _; rw [HSp.out]; omega)).mono ?_
            rintro e w16 ⟨rfl, hA16⟩
            have HA16 : Hid (At w8 w16 M (upd (upd M sq (some p)) sq none) N Y sz2 ob okb n z sq p) := hA16
            clear hA16
            go_wp2_with fail
            refine (row_none HA16.out.buf (upd_at _ sq none)).mono ?_
            rintro e _ ⟨rfl, rfl⟩
            go_wp2_with fail
            refine (count_to HA16.out.buf rfl).mono ?_
            rintro e _ ⟨rfl, rfl⟩
            go_wp2_with fail
            refine (bytes_to HA16.out.buf rfl).mono ?_
            rintro e _ ⟨rfl, rfl⟩
            go_wp2_with fail
            refine (HA16.out.others HZ.out h0).mono ?_
            rintro e w17 ⟨rfl, hA17⟩
            have HA17 : Hid (At w8 w17 M (upd (upd M sq (some p)) sq none) N Y sz2 ob okb n z sq p) := hA17
            clear hA17
            go_wp2_with fail
            refine (next_any _ _ _ _ _ _ HA17.out.buf).mono ?_
            rintro e w' ⟨rfl, hw⟩
            have hw := hw.symm
            subst hw
            go_wp2_with fail
            refine (undoLen_any _ _ _ _ _ _ HA17.out.buf).mono ?_
            rintro e w' ⟨rfl, hw⟩
            have hw := hw.symm
            subst hw
            go_wp2_with fail
            refine (inBatch_any _ _ _ _ _ _ HA17.out.buf).mono ?_
            rintro e w' ⟨rfl, hw⟩
            have hw := hw.symm
            subst hw
            go_wp2_with fail
            go_ret
            exact ⟨rfl, hb08.trans (HA17.out.b.mono hsz08)⟩
          | some q =>
            obtain ⟨hqb, a1, n1, c1, a2, n2, c2, hq1, hq2, hq3, hq4, hq5⟩ := HBr.out.rows sq q hm
            have hNpos := HBr.out.pos hm
            have HM : Hid (M sq = some q) := hm
            have HQ : Hid (RowAt wM q (sz q)) := ⟨a1, n1, c1, a2, n2, c2, hq1, hq2, hq3, hq4, hq5⟩
            have HQ3 : Hid ((n1 : Int) + (n2 : Int) = sz q) := hq3
            clear hm hq3
            go_wp2_with fail
            refine (row_some HBr.out HM.out).mono ?_
            rintro e _ ⟨rfl, rfl⟩
            go_wp2_with fail
            refine (bytes_to HBr.out rfl).mono ?_
            rintro e _ ⟨rfl, rfl⟩
            go_wp2_with fail
            refine (count_to HBr.out rfl).mono ?_
            rintro e _ ⟨rfl, rfl⟩
            go_wp2_with fail
            refine (payload_any _ q a1 n1 c1 hq1).mono ?_
            rintro e _ ⟨rfl, rfl⟩
            go_wp2_with fail
            refine (result_any _ q a2 n2 c2 hq2).mono ?_
            rintro e _ ⟨rfl, rfl⟩
            clear hq1 hq2
            go_wp2_with fail
            refine (cloneB_at wM _ nL h6 HLm.out).mono ?_
            rintro e w11 ⟨v1, rfl, hv1, -, hb11⟩
            go_wp2_with fail
            refine (cloneB_at w11 _ nK h7 (HKm.out.below hb11)).mono ?_
            rintro e w12 ⟨v2, rfl, hv2, -, hb12⟩
            obtain ⟨aX, cX, zX, eX, -⟩ := hv1
            obtain ⟨aY, cY, zY, eY, -⟩ := hv2
            subst eX eY
            go_wp2_with fail
            refine (newRow_any aX aY nL cX nK cY sE df h6 h7 w12).mono ?_
            rintro e w13 ⟨rfl, hrow, hb13⟩
            have s11 := hb11.size
            have s12 := hb12.size
            have s13 := hb13.size
            have hb : Below wM.heap.size wM w13 := hb11.trans ((hb12.mono s11).trans (hb13.mono (by omega)))
            have hpM : wM.heap.size ≤ w12.heap.size := by omega
            obtain ⟨hB13, hkey⟩ := with_row ((nL : Int) + (nK : Int)) HBr.out hb hpM
            generalize w12.heap.size = p at *
            have hszp : setZ sz p ((nL : Int) + (nK : Int)) p = (nL : Int) + (nK : Int) := by unfold setZ; rw [if_pos rfl]
            have hszq : setZ sz p ((nL : Int) + (nK : Int)) q = (n1 : Int) + (n2 : Int) := (hkey sq q HM.out).1.trans HQ3.out.symm
            have hpb : p ≠ w8.heap.size := by omega
            rw [← hszp] at hrow
            have ho13 := HO.out.of_block (hb.block _ HO.out.lt)
            have hk13 := HOk.out.of_block (hb.block _ HOk.out.lt)
            have h8a : Below w8.heap.size w8 w13 := hb8M.trans (hb.mono (Nat.le_of_lt hlr))
            have hq13 : RowAt w13 q (setZ sz p ((nL : Int) + (nK : Int)) q) := by
              rw [(hkey sq q HM.out).1]; exact HQ.out.kept (Kept.of_below hb) hqb
            have hAt : At w8 w13 M M N Y (setZ sz p ((nL : Int) + (nK : Int))) ob okb n z sq p := ⟨hB13, ho13, hk13, h8a, fun q' hq => by
              rcases hq with rfl | hq
              · exact ⟨hpb, hrow⟩
              · rw [HM.out] at hq; cases hq; exact ⟨hqb, hq13⟩, fun _ _ => rfl⟩
            have HA : Hid (At w8 w13 M M N Y (setZ sz p ((nL : Int) + (nK : Int))) ob okb n z sq p) := hAt
            have HSp : Hid (setZ sz p ((nL : Int) + (nK : Int)) p = (nL : Int) + (nK : Int)) := hszp
            have HSq : Hid (setZ sz p ((nL : Int) + (nK : Int)) q = (n1 : Int) + (n2 : Int)) := hszq
            clear hAt hB13 hkey hszp hszq hrow ho13 hk13 hb11 hb12 hb13 hb HLm HKm HO HOk hbW HBr h8a hb8M hq13 HQ HQ3
            generalize setZ sz p ((nL : Int) + (nK : Int)) = sz2 at *
            have hneq := neq_same ⟨p, 0, none⟩
            have hneq2 := neq_same ⟨q, 0, none⟩
            go_wp2_with fail
            refine (HA.out.put hne1 hne2 (by omega) (by omega) (some p) (fun q hq => by cases hq; exact .inl rfl) (N' := N) (y' := Y - ((n1 : Int) + (n2 : Int)) + (nL : Int) + (nK : Int)) (by rw [HM.out]; rfl) (by rw [HM.out]; show Y - sz2 q + sz2 p = _; rw [HSp.out, HSq.out]; omega)).mono ?_
            rintro e w14 ⟨rfl, hA14⟩
            have HA14 : Hid (At w8 w14 M (upd M sq (some p)) N (Y - ((n1 : Int) + (n2 : Int)) + (nL : Int) + (nK : Int)) sz2 ob okb n z sq p) := hA14
            clear hA14
            go_wp2_with fail
            refine (row_some HA14.out.buf (upd_at M sq (some p))).mono ?_
            rintro e _ ⟨rfl, rfl⟩
            go_wp2_with fail
            refine (count_to HA14.out.buf rfl).mono ?_
            rintro e _ ⟨rfl, rfl⟩
            go_wp2_with fail
            refine (bytes_to HA14.out.buf rfl).mono ?_
            rintro e _ ⟨rfl, rfl⟩
            go_wp2_with fail
            refine (HA14.out.others HZ.out h0).mono ?_
            rintro e w15 ⟨rfl, hA15⟩
            have HA15 : Hid (At w8 w15 M (upd M sq (some p)) N (Y - ((n1 : Int) + (n2 : Int)) + (nL : Int) + (nK : Int)) sz2 ob okb n z sq p) := hA15
            clear hA15
            go_wp2_with fail
            refine (HA15.out.put hne1 hne2 (by omega) (by omega) none (fun q hq => by cases hq) (N' := N - 1) (y' := Y - ((n1 : Int) + (n2 : Int))) (by rw [upd_at]; rfl) (by rw [upd_at]; show Y - _ + _ + _ - sz2 p + 0 = _; rw [HSp.out]; omega)).mono ?_
            rintro e w16 ⟨rfl, hA16⟩
            have HA16 : Hid (At w8 w16 M (upd (upd M sq (some p)) sq none) (N - 1) (Y - ((n1 : Int) + (n2 : Int))) sz2 ob okb n z sq p) := hA16
            clear hA16
            go_wp2_with fail
            refine (row_none HA16.out.buf (upd_at _ sq none)).mono ?_
            rintro e _ ⟨rfl, rfl⟩
            go_wp2_with fail
            refine (count_to HA16.out.buf (x := (N : Int) - 1) (by omega)).mono ?_
            rintro e _ ⟨rfl, rfl⟩
            go_wp2_with fail
            refine (bytes_to HA16.out.buf rfl).mono ?_
            rintro e _ ⟨rfl, rfl⟩
            go_wp2_with fail
            refine (HA16.out.others HZ.out h0).mono ?_
            rintro e w17 ⟨rfl, hA17⟩
            have HA17 : Hid (At w8 w17 M (upd (upd M sq (some p)) sq none) (N - 1) (Y - ((n1 : Int) + (n2 : Int))) sz2 ob okb n z sq p) := hA17
            clear hA17
            go_wp2_with fail
            refine (HA17.out.put hne1 hne2 (by omega) (by omega) (some q) (fun q' hq => by cases hq; exact .inr HM.out) (N' := N) (y' := Y) (by rw [upd_at]; show N - 1 + 1 = N; omega) (by rw [upd_at]; show Y - _ - 0 + sz2 q = _; rw [HSq.out]; omega)).mono ?_
            rintro e w18 ⟨rfl, hA18⟩
            have HA18 : Hid (At w8 w18 M (upd (upd (upd M sq (some p)) sq none) sq (some q)) N Y sz2 ob okb n z sq p) := hA18
            clear hA18
            go_wp2_with fail
            refine (row_some HA18.out.buf (upd_at _ sq (some q))).mono ?_
            rintro e _ ⟨rfl, rfl⟩
            go_wp2_with fail
            refine (count_to HA18.out.buf rfl).mono ?_
            rintro e _ ⟨rfl, rfl⟩
            go_wp2_with fail
            refine (bytes_to HA18.out.buf rfl).mono ?_
            rintro e _ ⟨rfl, rfl⟩
            go_wp2_with fail
            refine (HA18.out.others HZ.out h0).mono ?_
            rintro e w19 ⟨rfl, hA19⟩
            have HA19 : Hid (At w8 w19 M (upd (upd (upd M sq (some p)) sq none) sq (some q)) N Y sz2 ob okb n z sq p) := hA19
            clear hA19
            go_wp2_with fail
            refine (next_any _ _ _ _ _ _ HA19.out.buf).mono ?_
            rintro e w' ⟨rfl, hw⟩
            have hw := hw.symm
            subst hw
            go_wp2_with fail
            refine (undoLen_any _ _ _ _ _ _ HA19.out.buf).mono ?_
            rintro e w' ⟨rfl, hw⟩
            have hw := hw.symm
            subst hw
            go_wp2_with fail
            refine (inBatch_any _ _ _ _ _ _ HA19.out.buf).mono ?_
            rintro e w' ⟨rfl, hw⟩
            have hw := hw.symm
            subst hw
            go_wp2_with fail
            go_ret
            exact ⟨rfl, hb08.trans (HA19.out.b.mono hsz08)⟩
end Go.Proofs.Qxb6603509aMods.fnBufferedPutReplacesRemovesAndRestores
