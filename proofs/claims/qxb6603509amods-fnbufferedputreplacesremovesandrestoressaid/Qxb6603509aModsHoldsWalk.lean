/-
  THE WALK of 'FnBufferedPutHoldsLastRowOfEachSeq'.
-/
import Derived.Test.Qxb6603509aModsRowTo
import Derived.Test.Qxb6603509aModsCloneInts
namespace Go.Proofs.Qxb6603509aMods.fnBufferedPutHoldsLastRowOfEachSeq
open Go.RowKit Go.Proofs.Qxb6603509aMods

theorem rowOf_none {S : Scr} {rp : Nat → Nat} {k : Nat} (hd : S.drop k = true) : rowOf S rp k = none := by unfold rowOf puts; rw [hd]; rfl
theorem rowOf_set {S : Scr} {rp : Nat → Nat} {k p : Nat} (hd : S.drop k = false) : rowOf S (setN rp k p) k = some p := by
  unfold rowOf puts; rw [hd]; show some (setN rp k p k) = some p; unfold setN; rw [if_pos rfl]
theorem rowOf_other {S : Scr} {rp : Nat → Nat} {k p j : Nat} (hj : j ≠ k) : rowOf S (setN rp k p) j = rowOf S rp j := by
  unfold rowOf puts
  cases S.drop j
  · show some (setN rp k p j) = some (rp j); unfold setN; rw [if_neg hj]
  · rfl

/-- Step k's row is made, and stored in the slice of rows. -/
theorem stored {S : Scr} {z : Nat → Int} {wr w8 : World} {b k n rb : Nat} {rp : Nat → Nat} {sz : Nat → Int} (hD : Done S z wr b k rp sz) (hrow : wr.rowIs rb 35 n (part k (fun j => ptrOf (rowOf S rp j)) (.pointer none))) (hrp : ∀ j, j < k → S.drop j = false → rb < rp j)
    (hb8 : Below wr.heap.size wr w8) (p : Nat) (hp0 : wr.heap.size ≤ p) (hp : S.drop k = false → RowAt w8 p (S.size k)) (hbrb : b < rb) (v : Value) (hv : ptrOf (rowOf S (setN rp k p) k) = v) :
    Done S z (w8.setCell ⟨rb, k, none⟩ v) b k (setN rp k p) (setZ sz p (S.size k)) ∧ (w8.setCell ⟨rb, k, none⟩ v).rowIs rb 35 n (part (k + 1) (fun j => ptrOf (rowOf S (setN rp k p) j)) (.pointer none)) ∧
      (∀ q, rowOf S (setN rp k p) k = some q → q ≠ b ∧ b < q ∧ RowAt (w8.setCell ⟨rb, k, none⟩ v) q (setZ sz p (S.size k) q)) ∧ (S.drop k = false → setZ sz p (S.size k) (setN rp k p k) = S.size k) ∧ (∀ j, j < k + 1 → S.drop j = false → rb < setN rp k p j) ∧ Below b wr (w8.setCell ⟨rb, k, none⟩ v) := by
  obtain ⟨h1, h2⟩ := hD.fresh hb8 p hp0 hp
  have hlt := hrow.lt
  have hrow8 : w8.rowIs rb 35 n (part k (fun j => ptrOf (rowOf S rp j)) (.pointer none)) := hrow.of_block (hb8.block _ hlt)
  obtain ⟨c, hc⟩ := rowIs_block hrow8
  have hsame : ∀ j, j < k → setN rp k p j = rp j := fun j hj => by unfold setN; rw [if_neg (by omega)]
  refine ⟨h1.elsewhere (by omega) hc (fun j hj hd => ?_) k v, ?_, ?_, ?_, ?_, ?_⟩
  · rw [hsame j hj]; have := hrp j hj hd; omega
  · refine (hrow8.set k v).congr fun j _ => ?_
    unfold part
    by_cases e : j = k
    · subst e; rw [if_pos rfl, if_pos (by omega)]; exact hv.symm
    · rw [if_neg e]
      by_cases l : j < k
      · rw [if_pos l, if_pos (by omega)]
        show ptrOf (rowOf S rp j) = ptrOf (rowOf S (setN rp k p) j)
        rw [rowOf_other e]
      · rw [if_neg l, if_neg (by omega)]
  · intro q hq
    obtain ⟨g1, g2, g3⟩ := h2 q hq
    refine ⟨g1, g2, ?_⟩
    have hqp : q ≠ rb := by
      unfold rowOf at hq
      obtain ⟨i, e1, e2⟩ := Option.map_eq_some_iff.1 hq
      obtain ⟨rfl, _⟩ := puts_some e1
      unfold setN at e2; rw [if_pos rfl] at e2; omega
    obtain ⟨a1, n1, c1, a2, n2, c2, h4, h5, h6⟩ := g3
    have hk := Below.heap_setCell w8 ⟨rb, k, none⟩ v q hqp
    exact ⟨a1, n1, c1, a2, n2, c2, (World.cell?_of_block (w := w8) (a := ⟨q, 4, none⟩) hk).trans h4, (World.cell?_of_block (w := w8) (a := ⟨q, 24, none⟩) hk).trans h5, h6⟩
  · intro _
    unfold setZ setN; rw [if_pos rfl, if_pos rfl]
  · intro j hj hd
    by_cases e : j = k
    · subst e; unfold setN; rw [if_pos rfl]; omega
    · rw [hsame j (by omega)]; exact hrp j (by omega) hd
  · exact (hb8.mono (by have := hD.buf.lt; omega)).trans ((Below.refl _ _).setCell (p := ⟨rb, k, none⟩) (by show b ≤ rb; omega) _)

theorem drewN_below' (B : Nat) (w : World) (n : Nat) : Below B w (w.drewN n) := ⟨rfl, rfl, rfl, Nat.le_refl _, fun _ _ => rfl⟩
theorem sum_skip {z : Nat → Int} {d : Nat → Bool} {g : Nat → Int} {n m : Nat} (h : lastOf z d n (z m) ≠ some m) : sumL z d g n (m + 1) = sumL z d g n m := by
  show sumL z d g n m + _ = _
  rw [if_neg h]; omega
theorem sum_take {z : Nat → Int} {d : Nat → Bool} {g : Nat → Int} {n m : Nat} (h : lastOf z d n (z m) = some m) : sumL z d g n (m + 1) = sumL z d g n m + g m := by
  show sumL z d g n m + _ = _
  rw [if_pos h]

theorem mapOf_last {S : Scr} {z : Nat → Int} {rp : Nat → Nat} {n m : Nat} (h : lastOf z S.drop n (z m) = puts S.drop m) : mapOf S z rp n (z m) = rowOf S rp m := by
  unfold mapOf rowOf; rw [h]
theorem rowOf_row {S : Scr} {rp : Nat → Nat} {k : Nat} (hd : S.drop k = false) : rowOf S rp k = some (rp k) := by unfold rowOf puts; rw [hd]; rfl

/-- The script, its slices elsewhere. -/
def re (S : Scr) (aP : Option Addr) (cP : Nat) (aR : Option Addr) (cR : Nat) (aE : Option Addr) (cE : Nat) (aD : Option Addr) (cD : Nat) (aF : Option Addr) (cF : Nat) : Scr :=
  { S with aP := aP, cP := cP, aR := aR, cR := cR, aE := aE, cE := cE, aD := aD, cD := cD, aF := aF, cF := cF }

set_option maxRecDepth 100000 in
set_option maxHeartbeats 8000000 in
theorem main (aS : Option Addr) (n cS : Nat) (z : Nat → Int) (S : Scr) (w : World) (hin : ScrIn w S) (hz : SlIn w aS n cS (fun i => .int .i64 (z i)))
    (h0 : n ≤ 4096) (h1 : S.nP ≤ 4096) (h2 : S.nR ≤ 4096) (h3 : S.nE ≤ 4096) (h4 : S.nD ≤ 4096) (h5 : S.nF ≤ 4096) :
    Calls Trym.prog 3 #[.slice aS n cS, .slice S.aP S.nP S.cP, .slice S.aR S.nR S.cR, .slice S.aE S.nE S.cE, .slice S.aD S.nD S.cD, .slice S.aF S.nF S.cF] w fun e w' => e = .returned (.bool true) ∧ Below w.heap.size w w' := by
  have hmk := run_make_row' (P := Trym.prog) 34 35 (.pointer none) 8 Trym.underlying34 info35 rfl .i64 .i64 n (by omega) (by omega)
  go_enter Trym.func3, Trym.ntmps3
  go_wp2_with fail
  refine (zzBytes9_any aS n cS S w hin).mono ?_
  rintro e w' ⟨⟨r, rfl⟩, hw⟩
  have hw := hw.symm
  subst hw
  cases r
  · go_wp2_with fail
    go_ret
    exact ⟨rfl, Below.refl _ _⟩
  go_wp2_with fail
  refine (scriptBytes_any aS n cS S _ hin h0 h1 h2 h3 h4 h5).mono ?_
  rintro e w' ⟨⟨t, rfl, t0, t1, hlen⟩, hw⟩
  have hw := hw.symm
  subst hw
  by_cases ht : 1048576 < t
  · go_wp2_with fail
    go_ret
    exact ⟨rfl, Below.refl _ _⟩
  have hS : S.Small := ⟨h1, h2, h3, h4, h5, (hlen (by omega)).1, (hlen (by omega)).2⟩
  clear hlen
  go_wp2_with fail
  refine (cloneInt64s_any aS n cS z (by omega) _ hz).mono ?_
  rintro e w1 ⟨aS1, cS1, rfl, hz1, hb1⟩
  have in1 := hin.below hb1
  go_wp2_with fail
  refine (cloneList_any S.aP S.nP S.cP S.lenP (by omega) hS.lP _ in1.P).mono ?_
  rintro e w2 ⟨aP, cP, rfl, hP, hb2⟩
  have hz2 := hz1.below hb2
  have in2 := in1.below hb2
  go_wp2_with fail
  refine (cloneList_any S.aR S.nR S.cR S.lenR (by omega) hS.lR _ in2.R).mono ?_
  rintro e w3 ⟨aR, cR, rfl, hR, hb3⟩
  have hz3 := hz2.below hb3
  have hP3 := hP.below hb3
  have in3 := in2.below hb3
  go_wp2_with fail
  refine (cloneStrings_any S.aE S.nE S.cE S.zE (by omega) _ in3.E).mono ?_
  rintro e w4 ⟨aE, cE, rfl, hE, hb4⟩
  have hz4 := hz3.below hb4
  have hP4 := hP3.below hb4
  have hR4 := hR.below hb4
  have in4 := in3.below hb4
  go_wp2_with fail
  refine (cloneBools_any S.aD S.nD S.cD S.zD (by omega) _ in4.D).mono ?_
  rintro e w5 ⟨aD, cD, rfl, hD, hb5⟩
  have hz5 := hz4.below hb5
  have hP5 := hP4.below hb5
  have hR5 := hR4.below hb5
  have hE5 := hE.below hb5
  have in5 := in4.below hb5
  go_wp2_with fail
  refine (cloneBools_any S.aF S.nF S.cF S.zF (by omega) _ in5.F).mono ?_
  rintro e w6 ⟨aF, cF, rfl, hF, hb6⟩
  have in6 : ScrIn w6 (re S aP cP aR cR aE cE aD cD aF cF) :=
    ⟨hP5.below hb6, hR5.below hb6, hE5.below hb6, hD.below hb6, hF⟩
  have hz6 := hz5.below hb6
  have hS6 : Scr.Small (re S aP cP aR cR aE cE aD cD aF cF) := ⟨hS.P, hS.R, hS.E, hS.D, hS.F, hS.lP, hS.lR⟩
  have z1 := hb1.size
  have z2 := hb2.size
  have z3 := hb3.size
  have z4 := hb4.size
  have z5 := hb5.size
  have z6 := hb6.size
  have hb06 : Below w.heap.size w w6 := hb1.trans ((hb2.mono (by omega)).trans ((hb3.mono (by omega)).trans ((hb4.mono (by omega)).trans ((hb5.mono (by omega)).trans (hb6.mono (by omega))))))
  have hsz06 : w.heap.size ≤ w6.heap.size := by omega
  clear hz hz1 hz2 hz3 hz4 hz5 in1 in2 in3 in4 in5 hP hP3 hP4 hP5 hR hR4 hR5 hE hE5 hD hF hb1 hb2 hb3 hb4 hb5 hb6 z1 z2 z3 z4 z5 z6
  go_wp2_with fail
  refine (newBuf_any w6 (fun _ => 0)).mono ?_
  rintro e w7 ⟨rfl, hB7, hb7, hsz7⟩
  have H7 : Hid (w7.heap.size = w6.heap.size + 1) := hsz7
  clear hsz7
  obtain ⟨S2, hS2⟩ : ∃ S2, S2 = re S aP cP aR cR aE cE aD cD aF cF := ⟨_, rfl⟩
  rw [← hS2] at in6 hS6
  have HRow : Hid (∀ (wr : World) (k : Nat), ScrIn wr S2 → k ≤ 4096 → S2.drop k = false → Calls Trym.prog 16 #[.slice aP S.nP cP, .slice aR S.nR cR, .slice aE S.nE cE, .slice aD S.nD cD, .slice aF S.nF cF, .int .i64 k] wr fun e w' => ∃ p, e = .returned (.pointer (some ⟨p, 0, none⟩)) ∧ wr.heap.size ≤ p ∧ p < w'.heap.size ∧ RowAt w' p (S2.size k) ∧ Below wr.heap.size wr w') := by
    intro wr k hi hk hd; subst hS2; exact zzRow_row _ hS6 wr hi k hk hd
  have HDrop : Hid (∀ (wr : World) (k : Nat), ScrIn wr S2 → k ≤ 4096 → S2.drop k = true → Calls Trym.prog 16 #[.slice aP S.nP cP, .slice aR S.nR cR, .slice aE S.nE cE, .slice aD S.nD cD, .slice aF S.nF cF, .int .i64 k] wr fun e w' => e = .returned (.pointer none) ∧ w' = wr) := by
    intro wr k hi hk hd; subst hS2; exact zzRow_drop _ hS6 wr hi k hk hd
  have HPl : Hid (∀ wr, ScrIn wr S2 → RdBs wr aP S.nP cP S.lenP ∧ RdBs wr aR S.nR cR S.lenR) := by
    intro wr hi; subst hS2; exact ⟨hi.P, hi.R⟩
  have HSz : Hid (∀ k, S2.pl k = (if k < S.nP then S.lenP k else 0) ∧ S2.rl k = (if k < S.nR then S.lenR k else 0)) := by
    intro k; subst hS2; exact ⟨rfl, rfl⟩
  clear hS2 hin
  have HIn : Hid (ScrIn w6 S2) := in6
  have HZ : Hid (SlIn w6 aS1 n cS1 (fun i => .int .i64 (z i))) := hz6
  have hD0 : Done S2 z w7 w6.heap.size 0 (fun _ => 0) (fun _ => 0) := done_start hB7 _
  have HD0 : Hid (Done S2 z w7 w6.heap.size 0 (fun _ => 0) (fun _ => 0)) := hD0
  clear in6 hz6 hB7 hD0
  have hrb : w6.heap.size < w7.heap.size := by have := H7.out; omega
  go_wp2_with fail
  go_loopw [16] (fun i wr => ∃ (k : Nat) (rp : Nat → Nat) (sz : Nat → Int), k ≤ n ∧ i = .int .i64 k ∧ Done S2 z wr w6.heap.size k rp sz ∧ wr.rowIs w7.heap.size 35 n (part k (fun j => ptrOf (rowOf S2 rp j)) (.pointer none)) ∧ (∀ j, j < k → S2.drop j = false → w7.heap.size < rp j) ∧ Below w6.heap.size w6 wr) (fun i _ => n - (intOf i).toNat)
  case atStart =>
    have hal : Below w7.heap.size w7 (w7.alloc (.cells (madeCells #[.pointer none] n) 35)) := (Below.refl _ _).alloc (Nat.le_refl _) _
    exact ⟨0, fun _ => 0, fun _ => 0, Nat.zero_le _, rfl, ⟨HD0.out.buf.below hal, fun j hj => absurd hj (by omega), fun j hj => absurd hj (by omega)⟩, part_none _ (World.rowIs_made w7 _ n 35), fun j hj => absurd hj (by omega), hb7.trans (hal.mono (by omega))⟩
  case round =>
    clear hmk HD0
    obtain ⟨k, rp, sz, hk, rfl, hDn, hrow, hrp, hbel⟩ := hrel
    by_cases hlt : k < n
    · have hik := HIn.out.below hbel
      have hzk := HZ.out.below hbel
      obtain ⟨bs, offs, ha, hck⟩ := hzk.at hlt
      have hbs : bs < w6.heap.size := by
        obtain ⟨b', off', ha', hlt', -⟩ := HZ.out.pos hlt
        rw [ha] at ha'; cases ha'; exact hlt'
      subst ha
      have HDn : Hid (Done S2 z wr w6.heap.size k rp sz) := hDn
      have HRw : Hid (wr.rowIs w7.heap.size 35 n (part k (fun j => ptrOf (rowOf S2 rp j)) (.pointer none))) := hrow
      have HRp : Hid (∀ j, j < k → S2.drop j = false → w7.heap.size < rp j) := hrp
      clear hDn hrow hrp hzk
      cases hd : S2.drop k
      · go_wp2_with fail
        refine (HRow.out wr k hik (by omega) hd).mono ?_
        rintro e w8 ⟨p, rfl, hp0, hp1, hpr, hb8⟩
        have he9 : rowOf S2 (setN rp k p) k = some p := rowOf_set hd
        obtain ⟨hD9, hrow9, hr9, hw9, hrp9, hb9⟩ := stored HDn.out HRw.out HRp.out hb8 p hp0 (fun _ => hpr) hrb (.pointer (some ⟨p, 0, none⟩)) (by rw [he9]; rfl)
        rw [he9] at hr9
        have hrow8 : w8.rowIs w7.heap.size 35 n (part k (fun j => ptrOf (rowOf S2 rp j)) (.pointer none)) := HRw.out.of_block (hb8.block _ HRw.out.lt)
        have hold8 := hrow8.cell hlt
        have hfz8 := hrow8.frozen k
        clear hrow8
        have hck9 : (w8.setCell ⟨w7.heap.size, k, none⟩ (.pointer (some ⟨p, 0, none⟩))).cell? ⟨bs, offs + k, none⟩ = some (.int .i64 (z k)) := (hb9.cell (p := ⟨bs, offs + k, none⟩) hbs).trans hck
        have hcr9 : (w8.setCell ⟨w7.heap.size, k, none⟩ (.pointer (some ⟨p, 0, none⟩))).cell? ⟨w7.heap.size, k, none⟩ = some (.pointer (some ⟨p, 0, none⟩)) := by
          have := hrow9.cell hlt
          unfold part at this
          rw [if_pos (by omega)] at this
          have t2 : (w8.setCell ⟨w7.heap.size, k, none⟩ (.pointer (some ⟨p, 0, none⟩))).cell? ⟨w7.heap.size, k, none⟩ = some (ptrOf (rowOf S2 (setN rp k p) k)) := this
          rw [he9] at t2
          exact t2
        have HG : Hid (Done S2 z (w8.setCell ⟨w7.heap.size, k, none⟩ (.pointer (some ⟨p, 0, none⟩))) w6.heap.size k (setN rp k p) (setZ sz p (S2.size k)) ∧ (w8.setCell ⟨w7.heap.size, k, none⟩ (.pointer (some ⟨p, 0, none⟩))).rowIs w7.heap.size 35 n (part (k + 1) (fun j => ptrOf (rowOf S2 (setN rp k p) j)) (.pointer none)) ∧ (∀ q, some p = some q → q ≠ w6.heap.size ∧ w6.heap.size < q ∧ RowAt (w8.setCell ⟨w7.heap.size, k, none⟩ (.pointer (some ⟨p, 0, none⟩))) q (setZ sz p (S2.size k) q)) ∧ (S2.drop k = false → setZ sz p (S2.size k) (setN rp k p k) = S2.size k) ∧ (∀ j, j < k + 1 → S2.drop j = false → w7.heap.size < setN rp k p j) ∧ Below w6.heap.size wr (w8.setCell ⟨w7.heap.size, k, none⟩ (.pointer (some ⟨p, 0, none⟩)))) := ⟨hD9, hrow9, hr9, hw9, hrp9, hb9⟩
        have HE9 : Hid (rowOf S2 (setN rp k p) k = some p) := he9
        clear hD9 hrow9 hr9 hw9 hrp9 hb9 hck he9
        go_wp2_with fail
        clear hold8 hfz8
        generalize (w8.setCell ⟨w7.heap.size, k, none⟩ (.pointer (some ⟨p, 0, none⟩))) = W at *
        go_region_held3 (fun X => X.cell? ⟨bs, offs + k, none⟩ = some (.int .i64 (z k)) ∧ X.cell? ⟨w7.heap.size, k, none⟩ = some (.pointer (some ⟨p, 0, none⟩))) (simp [go_sem, *])
          (first | (go_at_call 17; refine (put_any _ w6.heap.size (mapOf S2 z (setN rp k p) k) (heldN z S2.drop k) (heldW z S2.drop S2.size k) (setZ sz p (S2.size k)) ?_ ?_ ?_ (z k) (some p) ?_).mono ?_; exact HG.out.1.buf.heap rfl; exact (by have := held_range hS6 z k (by omega); omega); exact (by have := held_range hS6 z k (by omega); omega); exact (fun q hq => ⟨(HG.out.2.2.1 q hq).1, (HG.out.2.2.1 q hq).2.2.kept (b := w6.heap.size) (Kept.heap rfl) (HG.out.2.2.1 q hq).1⟩); rintro e w9 ⟨rfl, hB9, hK9, hL9⟩; have q1 : w9.cell? ⟨bs, offs + k, none⟩ = some (.int .i64 (z k)) := ((hL9.cell (p := ⟨bs, offs + k, none⟩) hbs).trans hck9); have q2 : w9.cell? ⟨w7.heap.size, k, none⟩ = some (.pointer (some ⟨p, 0, none⟩)) := (hK9.cell (a := ⟨w7.heap.size, k, none⟩) (by show w7.heap.size ≠ w6.heap.size; omega) hcr9)))
        have G := HG.out
        rw [← HE9.out] at G hB9
        have hKW : Kept w6.heap.size W w9 := (Kept.heap (w := W) (w' := W.drew) rfl).trans hK9
        have hD' := G.1.put G.2.2.1 G.2.2.2.1 hB9 hKW
        have hrow' := hKW.rowIs (by omega) G.2.1
        have hL' : Below w6.heap.size w6 w9 := hbel.trans (G.2.2.2.2.2.trans (Below.trans (B := w6.heap.size) ((Below.refl _ _).drew) hL9))
        have HF : Hid (Done S2 z w9 w6.heap.size (k + 1) (setN rp k p) (setZ sz p (S2.size k)) ∧ w9.rowIs w7.heap.size 35 n (part (k + 1) (fun j => ptrOf (rowOf S2 (setN rp k p) j)) (.pointer none)) ∧ (∀ j, j < k + 1 → S2.drop j = false → w7.heap.size < setN rp k p j) ∧ Below w6.heap.size w6 w9) := ⟨hD', hrow', G.2.2.2.2.1, hL'⟩
        clear G hB9 hKW hD' hrow' hL' hK9 hL9 HG hbel hik
        go_wp2
        go_roundw
        case rel => exact ⟨k + 1, _, _, by omega, by go_num, HF.out.1, HF.out.2.1, HF.out.2.2.1, HF.out.2.2.2⟩
        case measure => simp [intOf]; omega
      · go_wp2_with fail
        refine (HDrop.out wr k hik (by omega) hd).mono ?_
        rintro e w8 ⟨rfl, hw8⟩
        obtain ⟨p, hp0⟩ : ∃ p, wr.heap.size ≤ p := ⟨_, Nat.le_refl _⟩
        have hb8 : Below wr.heap.size wr w8 := by rw [hw8]; exact Below.refl _ _
        clear hw8
        have he9 : rowOf S2 (setN rp k p) k = none := rowOf_none hd
        obtain ⟨hD9, hrow9, hr9, hw9, hrp9, hb9⟩ := stored HDn.out HRw.out HRp.out hb8 p hp0 (fun h => by rw [hd] at h; cases h) hrb (.pointer none) (by rw [he9]; rfl)
        rw [he9] at hr9
        have hrow8 : w8.rowIs w7.heap.size 35 n (part k (fun j => ptrOf (rowOf S2 rp j)) (.pointer none)) := HRw.out.of_block (hb8.block _ HRw.out.lt)
        have hold8 := hrow8.cell hlt
        have hfz8 := hrow8.frozen k
        clear hrow8
        have hck9 : (w8.setCell ⟨w7.heap.size, k, none⟩ (.pointer none)).cell? ⟨bs, offs + k, none⟩ = some (.int .i64 (z k)) := (hb9.cell (p := ⟨bs, offs + k, none⟩) hbs).trans hck
        have hcr9 : (w8.setCell ⟨w7.heap.size, k, none⟩ (.pointer none)).cell? ⟨w7.heap.size, k, none⟩ = some (.pointer none) := by
          have := hrow9.cell hlt
          unfold part at this
          rw [if_pos (by omega)] at this
          have t2 : (w8.setCell ⟨w7.heap.size, k, none⟩ (.pointer none)).cell? ⟨w7.heap.size, k, none⟩ = some (ptrOf (rowOf S2 (setN rp k p) k)) := this
          rw [he9] at t2
          exact t2
        have HG : Hid (Done S2 z (w8.setCell ⟨w7.heap.size, k, none⟩ (.pointer none)) w6.heap.size k (setN rp k p) (setZ sz p (S2.size k)) ∧ (w8.setCell ⟨w7.heap.size, k, none⟩ (.pointer none)).rowIs w7.heap.size 35 n (part (k + 1) (fun j => ptrOf (rowOf S2 (setN rp k p) j)) (.pointer none)) ∧ (∀ q, (none : Option Nat) = some q → q ≠ w6.heap.size ∧ w6.heap.size < q ∧ RowAt (w8.setCell ⟨w7.heap.size, k, none⟩ (.pointer none)) q (setZ sz p (S2.size k) q)) ∧ (S2.drop k = false → setZ sz p (S2.size k) (setN rp k p k) = S2.size k) ∧ (∀ j, j < k + 1 → S2.drop j = false → w7.heap.size < setN rp k p j) ∧ Below w6.heap.size wr (w8.setCell ⟨w7.heap.size, k, none⟩ (.pointer none))) := ⟨hD9, hrow9, hr9, hw9, hrp9, hb9⟩
        have HE9 : Hid (rowOf S2 (setN rp k p) k = none) := he9
        clear hD9 hrow9 hr9 hw9 hrp9 hb9 hck he9
        go_wp2_with fail
        clear hold8 hfz8
        generalize (w8.setCell ⟨w7.heap.size, k, none⟩ (.pointer none)) = W at *
        go_region_held3 (fun X => X.cell? ⟨bs, offs + k, none⟩ = some (.int .i64 (z k)) ∧ X.cell? ⟨w7.heap.size, k, none⟩ = some (.pointer none)) (simp [go_sem, *])
          (first | (go_at_call 17; refine (put_any _ w6.heap.size (mapOf S2 z (setN rp k p) k) (heldN z S2.drop k) (heldW z S2.drop S2.size k) (setZ sz p (S2.size k)) ?_ ?_ ?_ (z k) none ?_).mono ?_; exact HG.out.1.buf.heap rfl; exact (by have := held_range hS6 z k (by omega); omega); exact (by have := held_range hS6 z k (by omega); omega); exact (fun q hq => ⟨(HG.out.2.2.1 q hq).1, (HG.out.2.2.1 q hq).2.2.kept (b := w6.heap.size) (Kept.heap rfl) (HG.out.2.2.1 q hq).1⟩); rintro e w9 ⟨rfl, hB9, hK9, hL9⟩; have q1 : w9.cell? ⟨bs, offs + k, none⟩ = some (.int .i64 (z k)) := ((hL9.cell (p := ⟨bs, offs + k, none⟩) hbs).trans hck9); have q2 : w9.cell? ⟨w7.heap.size, k, none⟩ = some (.pointer none) := (hK9.cell (a := ⟨w7.heap.size, k, none⟩) (by show w7.heap.size ≠ w6.heap.size; omega) hcr9)))
        have G := HG.out
        rw [← HE9.out] at G hB9
        have hKW : Kept w6.heap.size W w9 := (Kept.heap (w := W) (w' := W.drew) rfl).trans hK9
        have hD' := G.1.put G.2.2.1 G.2.2.2.1 hB9 hKW
        have hrow' := hKW.rowIs (by omega) G.2.1
        have hL' : Below w6.heap.size w6 w9 := hbel.trans (G.2.2.2.2.2.trans (Below.trans (B := w6.heap.size) ((Below.refl _ _).drew) hL9))
        have HF : Hid (Done S2 z w9 w6.heap.size (k + 1) (setN rp k p) (setZ sz p (S2.size k)) ∧ w9.rowIs w7.heap.size 35 n (part (k + 1) (fun j => ptrOf (rowOf S2 (setN rp k p) j)) (.pointer none)) ∧ (∀ j, j < k + 1 → S2.drop j = false → w7.heap.size < setN rp k p j) ∧ Below w6.heap.size w6 w9) := ⟨hD', hrow', G.2.2.2.2.1, hL'⟩
        clear G hB9 hKW hD' hrow' hL' hK9 hL9 HG hbel hik
        go_wp2
        go_roundw
        case rel => exact ⟨k + 1, _, _, by omega, by go_num, HF.out.1, HF.out.2.1, HF.out.2.2.1, HF.out.2.2.2⟩
        case measure => simp [intOf]; omega
    · have hkn : k = n := by omega
      subst hkn
      have HB : Hid (BufAt wr w6.heap.size (mapOf S2 z rp k) (heldN z S2.drop k) (heldW z S2.drop S2.size k) sz) := hDn.buf
      have HRw : Hid (wr.rowIs w7.heap.size 35 k (fun j => ptrOf (rowOf S2 rp j))) := part_all hrow
      have HInr : Hid (ScrIn wr S2) := HIn.out.below hbel
      have HZr : Hid (SlIn wr aS1 k cS1 (fun i => .int .i64 (z i))) := HZ.out.below hbel
      have hszr := hbel.size
      clear hDn hrow hrp HIn HZ HRow HDrop hlt hk
      generalize wr = wL at *
      generalize k = n at *
      go_wp2_with fail
      go_loopw [17, 18, 19] (fun wc wb i wr => ∃ m : Nat, m ≤ n ∧ i = .int .i64 m ∧ wc = .int .i64 (sumL z S2.drop one n m) ∧ wb = .int .i64 (sumL z S2.drop S2.size n m) ∧ Below wL.heap.size wL wr) (fun _ _ i _ => n - (intOf i).toNat)
      case atStart => exact ⟨0, Nat.zero_le _, rfl, rfl, rfl, Below.refl _ _⟩
      case round =>
        obtain ⟨m, hm, rfl, rfl, rfl, hbm⟩ := hrel
        by_cases hlt : m < n
        · have hzm := HZr.out.below hbm
          obtain ⟨bs, offs, ha, -, hcs⟩ := hzm.pos hlt
          subst ha
          have hcm := hcs m hlt
          have HCs : Hid (∀ i, i < n → wr.cell? ⟨bs, offs + i, none⟩ = some (.int .i64 (z i))) := hcs
          have HBr : Hid (BufAt wr w6.heap.size (mapOf S2 z rp n) (heldN z S2.drop n) (heldW z S2.drop S2.size n) sz) := HB.out.below hbm
          have hrwm := (HRw.out.of_block (hbm.block _ HRw.out.lt)).cell hlt
          have HRm : Hid (wr.cell? ⟨w7.heap.size, m, none⟩ = some (ptrOf (rowOf S2 rp m))) := hrwm
          have HInm : Hid (ScrIn wr S2) := HInr.out.below hbm
          clear hcs hzm hrwm
          have hszm := hbm.size
          generalize wr = wM at *
          go_wp2_with fail
          go_loopw [20, 21] (fun la j wr => ∃ q : Nat, m + 1 ≤ q ∧ q ≤ n ∧ j = .int .i64 q ∧ la = .bool true ∧ (∀ j', m < j' → j' < q → z j' ≠ z m) ∧ Below wM.heap.size wM wr) (fun _ j _ => n - (intOf j).toNat)
          case atStart => exact ⟨m + 1, Nat.le_refl _, by omega, by go_num, rfl, fun j' h1 h2 => by omega, Below.refl _ _⟩
          case round =>
            obtain ⟨q, hq0, hq1, rfl, rfl, hno, hbq⟩ := hrel
            have HNo : Hid (∀ j', m < j' → j' < q → z j' ≠ z m) := hno
            clear hno
            by_cases hltq : q < n
            · have hbsl : bs < wM.heap.size := by
                obtain ⟨c, t, fz, hblk⟩ := cells_of_cell hcm
                exact (Array.getElem?_eq_some_iff.1 hblk).1
              have hcm' : wr.cell? ⟨bs, offs + m, none⟩ = some (.int .i64 (z m)) := (hbq.cell (p := ⟨bs, offs + m, none⟩) hbsl).trans hcm
              have hcq' : wr.cell? ⟨bs, offs + q, none⟩ = some (.int .i64 (z q)) := (hbq.cell (p := ⟨bs, offs + q, none⟩) hbsl).trans (HCs.out q hltq)
              have i1 : (q : Int) < (n : Int) := by omega
              have i2 : (m : Int) < (n : Int) := by omega
              by_cases e : z q = z m
              · have he : (z q == z m) = true := by simp [e]
                have HSk : Hid (lastOf z S2.drop n (z m) ≠ some m) := last_later (by omega) hltq e
                clear e hcm
                go_wp2_with fail
                go_quiet (fail)
                go_wp2
                go_roundw
                case rel => exact ⟨m + 1, by omega, by go_num, by rw [sum_skip HSk.out], by rw [sum_skip HSk.out], (hbm.trans (hbq.mono hszm)).trans (drewN_below' _ _ _)⟩
                case measure => simp [intOf]; omega
              · have he : (z q == z m) = false := by simp [e]
                have HE : Hid (z q ≠ z m) := e
                clear e hcm
                go_wp2_with fail
                go_quiet (fail)
                go_wp2
                go_roundw
                case rel => exact ⟨q + 1, by omega, by omega, by go_num, rfl, fun j' h1 h2 => by
                  by_cases ej : j' = q
                  · rw [ej]; exact HE.out
                  · exact HNo.out j' h1 (by omega), hbq.trans (drewN_below' _ _ _)⟩
                case measure => simp [intOf]; omega
            · have hlast : lastOf z S2.drop n (z m) = puts S2.drop m := last_is hlt (fun j' h1 h2 => HNo.out j' h1 (by omega))
              have hbsl : bs < wM.heap.size := by
                obtain ⟨c, t, fz, hblk⟩ := cells_of_cell hcm
                exact (Array.getElem?_eq_some_iff.1 hblk).1
              have hcm' : wr.cell? ⟨bs, offs + m, none⟩ = some (.int .i64 (z m)) := (hbq.cell (p := ⟨bs, offs + m, none⟩) hbsl).trans hcm
              have HBr' : Hid (BufAt wr w6.heap.size (mapOf S2 z rp n) (heldN z S2.drop n) (heldW z S2.drop S2.size n) sz) := HBr.out.below hbq
              have hrm' : wr.cell? ⟨w7.heap.size, m, none⟩ = some (ptrOf (rowOf S2 rp m)) := by
                obtain ⟨c, t, fz, hblk⟩ := cells_of_cell HRm.out
                exact (hbq.cell (p := ⟨w7.heap.size, m, none⟩) (Array.getElem?_eq_some_iff.1 hblk).1).trans HRm.out
              have hinm := HInm.out.below hbq
              have hr1 := sum_range (seq := z) (drop := S2.drop) one 1 (fun _ => ⟨by unfold one; omega, by unfold one; omega⟩) n m
              have hr2 := sum_range (seq := z) (drop := S2.drop) S2.size 2097152 (size_range hS6) n m
              obtain ⟨r10, r11⟩ := hr1
              obtain ⟨r20, r21⟩ := hr2
              have r11' : sumL z S2.drop one n m ≤ 4096 := by omega
              have r21' : sumL z S2.drop S2.size n m ≤ 8589934592 := by omega
              have i2 : (m : Int) < (n : Int) := by omega
              have hsb : Below wL.heap.size wL wr := hbm.trans (hbq.mono hszm)
              have hmap := mapOf_last (rp := rp) hlast
              cases hd : S2.drop m
              · have hrow0 := rowOf_row (rp := rp) hd
                rw [hrow0] at hrm' hmap
                have htk : lastOf z S2.drop n (z m) = some m := by rw [hlast]; unfold puts; rw [hd]; rfl
                have HTk : Hid (lastOf z S2.drop n (z m) = some m) := htk
                clear htk
                have HMap : Hid (mapOf S2 z rp n (z m) = some (rp m)) := hmap
                have hrm2 : wr.cell? ⟨w7.heap.size, m, none⟩ = some (.pointer (some ⟨rp m, 0, none⟩)) := hrm'
                have hpl := hS6.pl_le m
                have hrl := hS6.rl_le m
                clear hlast hmap hrow0 hrm' hcm r11 r21 hbm hbq
                go_wp2_with fail
                refine (row_some HBr'.out HMap.out).mono ?_
                rintro e _ ⟨rfl, rfl⟩
                have hneq := neq_same ⟨rp m, 0, none⟩
                go_wp2_with fail
                refine (bytesAt_to (HPl.out _ hinm).1 (by omega) (by omega) (HSz.out m).1.symm).mono ?_
                rintro e _ ⟨⟨a1, c1, rfl⟩, rfl⟩
                go_wp2_with fail
                refine (bytesAt_to (HPl.out _ hinm).2 (by omega) (by omega) (HSz.out m).2.symm).mono ?_
                rintro e _ ⟨⟨a2, c2, rfl⟩, rfl⟩
                have HT1 : Hid (sumL z S2.drop one n (m + 1) = sumL z S2.drop one n m + 1) := sum_take HTk.out
                have HT2 : Hid (sumL z S2.drop S2.size n (m + 1) = sumL z S2.drop S2.size n m + ((S2.pl m : Int) + (S2.rl m : Int))) := sum_take HTk.out
                go_wp2
                go_roundw
                case rel => exact ⟨m + 1, by omega, by go_num, by rw [HT1.out], by rw [HT2.out], hsb⟩
                case measure => simp [intOf]; omega
              · rw [rowOf_none hd] at hrm' hmap
                have hsk : lastOf z S2.drop n (z m) ≠ some m := by rw [hlast]; unfold puts; rw [hd]; simp
                have HSk : Hid (lastOf z S2.drop n (z m) ≠ some m) := hsk
                clear hsk
                have HMap : Hid (mapOf S2 z rp n (z m) = none) := hmap
                have hrm2 : wr.cell? ⟨w7.heap.size, m, none⟩ = some (.pointer none) := hrm'
                clear hlast hmap hrm' hcm r11 r21 hbm hbq
                go_wp2_with fail
                refine (row_none HBr'.out HMap.out).mono ?_
                rintro e _ ⟨rfl, rfl⟩
                go_wp2
                go_roundw
                case rel => exact ⟨m + 1, by omega, by go_num, by rw [sum_skip HSk.out], by rw [sum_skip HSk.out], hsb⟩
                case measure => simp [intOf]; omega
        · have hmn : m = n := by omega
          subst hmn
          have HBr : Hid (BufAt wr w6.heap.size (mapOf S2 z rp m) (heldN z S2.drop m) (heldW z S2.drop S2.size m) sz) := HB.out.below hbm
          have hc1 : (heldN z S2.drop m : Int) = sumL z S2.drop one m m := by rw [held_count, held_sum]
          have HC1 : Hid ((heldN z S2.drop m : Int) = sumL z S2.drop one m m) := hc1
          clear hc1
          have HC2 : Hid (heldW z S2.drop S2.size m = sumL z S2.drop S2.size m m) := held_sum S2.size m
          have hfin : Below w.heap.size w wr := hb06.trans ((hbel.mono hsz06).trans (hbm.mono (by omega)))
          go_wp2_with fail
          refine (count_to HBr.out HC1.out).mono ?_
          rintro e _ ⟨rfl, rfl⟩
          go_wp2_with fail
          refine (bytes_to HBr.out HC2.out).mono ?_
          rintro e _ ⟨rfl, rfl⟩
          go_wp2_with fail
          refine (next_any _ _ _ _ _ _ HBr.out).mono ?_
          rintro e w' ⟨rfl, hw⟩
          have hw := hw.symm
          subst hw
          go_wp2_with fail
          refine (undoLen_any _ _ _ _ _ _ HBr.out).mono ?_
          rintro e w' ⟨rfl, hw⟩
          have hw := hw.symm
          subst hw
          go_wp2_with fail
          refine (inBatch_any _ _ _ _ _ _ HBr.out).mono ?_
          rintro e w' ⟨rfl, hw⟩
          have hw := hw.symm
          subst hw
          go_wp2_with fail
          go_ret
          exact ⟨rfl, hfin⟩
end Go.Proofs.Qxb6603509aMods.fnBufferedPutHoldsLastRowOfEachSeq
