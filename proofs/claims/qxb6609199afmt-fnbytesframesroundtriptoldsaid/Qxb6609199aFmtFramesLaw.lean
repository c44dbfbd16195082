/-
  FnBytesFramesRoundTrip: the walk, FOR EVERY F.
-/
import Derived.Test.Qxb6609199aFmtFrames
namespace Go.Proofs.Qxb6609199aFmt
open Go.RowKit Go.Extern.Stop Go.Stop Go.Extern
set_option linter.unusedVariables false
attribute [local go_sem] eqNil neNil

set_option maxHeartbeats 2000000 in
theorem frames_small (F : Interp) (ap aq at' : Option Addr) (np nq nt cp cq ct : Nat) (p q t : List UInt8) (w : World) (hF : F.answers w.tape)
    (Rp : Reads w.heap.size w ap p) (Rq : Reads w.heap.size w aq q) (Rt : Reads w.heap.size w at' t) (lp : p.length = np) (lq : q.length = nq) (lt : t.length = nt) (h : np + nq + nt ≤ 1048576) :
    Calls Tryf.prog 3 #[.slice ap np cp, .slice aq nq cq, .slice at' nt ct] w fun e w' => e = .returned (.bool true) ∧ Below w.heap.size w w' := by
  have h1 : (np : Int) ≤ 1048576 := by omega
  have h2 : (nq : Int) ≤ 1048576 := by omega
  have h3 : (nt : Int) ≤ 1048576 := by omega
  have h5 : (np : Int) + (nq : Int) + (nt : Int) ≤ 1048576 := by omega
  have LP := hide lp
  have LQ := hide lq
  have LT := hide lt
  clear lp lq lt
  obtain ⟨W1, hmk, B1, bl1, sz1⟩ := make_buf (8 + (np : Int) + (nq : Int) + (nt : Int)) (8 + np + nq + nt) w (by push_cast; rfl) (by omega)
  generalize hc : 8 + np + nq + nt = c at *
  have HC := hide hc
  clear hc
  generalize hM : w.heap.size = M at *
  have HM := hide hM
  clear hM
  go_enter Tryf.func3, Tryf.ntmps3
  go_wp2_with fail
  refine (bytes6_yes ap aq at' np nq nt cp cq ct _ h).mono ?_
  rintro e w0 ⟨rfl, rfl⟩
  have r1 : 0 + 4 ≤ c := by have := unhide HC; omega
  have r2 : 4 + np ≤ c := by have := unhide HC; omega
  have r3 : 4 + np + 4 ≤ c := by have := unhide HC; omega
  have r4 : 4 + np + 4 + nq ≤ c := by have := unhide HC; omega
  have r5 : 4 + np + 4 + nq + nt ≤ c := by have := unhide HC; omega
  go_wp2_with fail
  refine (put_be M 0 c np [] _ B1 r1 (by omega)).mono ?_
  rintro e W2 ⟨rfl, B2, bl2⟩
  simp only [Nat.zero_add, List.nil_append] at B2
  have bl2' := bl1.trans bl2
  have Rp2 := Rp.carry bl2' (Nat.le_refl _)
  clear bl1 bl2 B1 hmk sz1
  go_wp2_with (at_builtin; refine wpList_append_buf _ rfl _ _ rfl rfl M M 4 c np cp (be4 np) p ap rfl rfl (by exact B2) (by exact Rp2) (unhide LP) r2 ?_; intro W3 B3 bl3)
  refine (put_be M (4 + np) c nq _ _ B3 r3 (by omega)).mono ?_
  rintro e W4 ⟨rfl, B4, bl4⟩
  have bl4' := (bl2'.trans bl3).trans bl4
  have Rq4 := Rq.carry bl4' (Nat.le_refl _)
  clear B2 B3 Rp2 bl3 bl4 bl2'
  go_wp2_with (first
    | (at_builtin; have B5' := B5; refine wpList_append_buf _ rfl _ _ rfl rfl M M (4 + np + 4 + nq) c nt ct _ t at' rfl rfl (by exact B5) (Rt.carry (bl4'.trans bl5) (Nat.le_refl _)) (unhide LT) r5 ?_; intro W6 B6 bl6)
    | (at_builtin; refine wpList_append_buf _ rfl _ _ rfl rfl M M (4 + np + 4) c nq cq _ q aq rfl rfl (by exact B4) (by exact Rq4) (unhide LQ) r4 ?_; intro W5 B5 bl5))
  have bl6' := (bl4'.trans bl5).trans bl6
  have hM6 : M < W6.heap.size := B6.lt (by omega)
  clear B4 B5 B5' Rq4 bl4' bl5 bl6
  refine (newDecoder (some ⟨M, 0, none⟩) (4 + np + 4 + nq + nt) c _ _ (B6.reads hM6) B6.len B6.le (by omega)).mono ?_
  rintro e W7 ⟨rfl, S7, bl7⟩
  simp only [List.append_assoc] at S7
  have hMD : M < W6.heap.size := hM6
  generalize hD : W6.heap.size = D at *
  clear hD
  have bl7' := bl6'.trans (bl7.mono (Nat.le_of_lt hMD))
  clear bl6' bl7 B6
  go_wp2_with fail
  refine (frame_ok D (some ⟨M, 0, none⟩) (4 + np + 4 + nq + nt) c np p (be4 nq ++ (q ++ t)) _ S7 (unhide LP) (by omega)).mono ?_
  rintro e W8 ⟨rfl, S8, R8, bl8⟩
  obtain ⟨x1, e1⟩ : ∃ x, adv (some ⟨M, 0, none⟩) c 4 = some x := ⟨_, rfl⟩
  rw [e1] at S8 R8 ⊢
  clear e1 S7
  have bl8' := bl7'.trans (bl8.mono (Nat.le_of_lt hMD))
  clear bl7' bl8
  go_wp2_with fail
  refine (frame_ok D _ _ _ nq q t _ S8 (unhide LQ) (by omega)).mono ?_
  rintro e W9 ⟨rfl, S9, R9, bl9⟩
  obtain ⟨x2, e2⟩ : ∃ x, adv (adv (some x1) (c - 4) np) (c - 4 - np) 4 = some x := ⟨_, rfl⟩
  rw [e2] at S9 R9 ⊢
  clear e2 S8
  have R1 := R8.carry bl9 (Nat.le_refl _)
  have bl9' := bl8'.trans (bl9.mono (Nat.le_of_lt hMD))
  clear bl8' bl9 R8
  go_wp2_with fail
  refine (eq_yes D (some x1) ap np np np cp p _ rfl R1 ((Rp.carry bl9' (Nat.le_refl _)).mono (Nat.le_of_lt hMD)) (unhide LP) (Nat.le_of_lt S9.lt) (by omega)).mono ?_
  rintro e W10 ⟨rfl, bl10⟩
  have S10 := S9.carry bl10 S9.lt
  have R10 := R9.carry bl10 (Nat.le_of_lt S9.lt)
  have bl10' := bl9'.trans (bl10.mono (Nat.le_of_lt (Nat.lt_trans hMD S9.lt)))
  clear S9 R9 R1 bl9' bl10
  go_wp2_with fail
  refine (eq_yes D (some x2) aq nq nq nq cq q _ rfl R10 ((Rq.carry bl10' (Nat.le_refl _)).mono (Nat.le_of_lt hMD)) (unhide LQ) (Nat.le_of_lt S10.lt) (by omega)).mono ?_
  rintro e W11 ⟨rfl, bl11⟩
  have S11 := S10.carry bl11 S10.lt
  have bl11' := bl10'.trans (bl11.mono (Nat.le_of_lt (Nat.lt_trans hMD S10.lt)))
  clear S10 R10 bl10' bl11
  go_wp2_with fail
  refine (rest_w D _ _ _ _ _ _ S11).mono ?_
  rintro e W12 ⟨rfl, rfl⟩
  go_wp2_with fail
  refine (eq_yes D _ at' _ nt _ ct t _ (by omega) S11.rd ((Rt.carry bl11' (Nat.le_refl _)).mono (Nat.le_of_lt hMD)) (unhide LT) (Nat.le_of_lt S11.lt) (by omega)).mono ?_
  rintro e W13 ⟨rfl, bl13⟩
  have S13 := S11.carry bl13 S11.lt
  have bl13' := bl11'.trans (bl13.mono (Nat.le_of_lt (Nat.lt_trans hMD S11.lt)))
  clear S11 bl11' bl13
  go_wp2_with fail
  refine (err_nil D _ _ _ _ _ S13).mono ?_
  rintro e W14 ⟨rfl, rfl⟩
  clear S13
  obtain ⟨W15, hmk2, B15, bl15, sz15⟩ := make_buf (4 + (np : Int)) (4 + np) W14 (by push_cast; rfl) (by omega)
  have hM15 : M ≤ W14.heap.size := by have h1 := bl13'.size; have h2 := unhide HM; omega
  generalize hL : W14.heap.size = L at *
  clear hL
  have bl15' := bl13'.trans (bl15.mono hM15)
  clear bl13' bl15
  go_wp2_with fail
  rw [show ((np : Int) + 1) = ((np + 1 : Nat) : Int) from by omega]
  refine (put_be L 0 (4 + np) (np + 1) [] _ B15 (by omega) (by omega)).mono ?_
  rintro e W16 ⟨rfl, B16, bl16⟩
  simp only [Nat.zero_add, List.nil_append] at B16
  have bl16' := bl15'.trans (bl16.mono hM15)
  have Rp16 := Rp.carry bl16' (Nat.le_refl _)
  clear bl15' bl16 B15 hmk2 sz15
  go_wp2_with (at_builtin; refine wpList_append_buf _ rfl _ _ rfl rfl M L 4 (4 + np) np cp (be4 (np + 1)) p ap rfl rfl (by exact B16) (by exact Rp16) (unhide LP) (Nat.le_refl _) ?_; intro W17 B17 bl17)
  have bl17' := bl16'.trans (bl17.mono hM15)
  have hL17 : L < W17.heap.size := B17.lt (by omega)
  clear B16 Rp16 bl16' bl17
  refine (newDecoder (some ⟨L, 0, none⟩) (4 + np) (4 + np) _ _ (B17.reads hL17) B17.len B17.le (by omega)).mono ?_
  rintro e W18 ⟨rfl, S18, bl18⟩
  have hME : M < W17.heap.size := by omega
  generalize hE : W17.heap.size = E at *
  clear hE
  have bl18' := bl17'.trans (bl18.mono (Nat.le_of_lt hME))
  clear bl17' bl18 B17
  go_wp2_with fail
  refine (frame_long F E _ _ _ (np + 1) p _ (by rw [bl18'.tape]; exact hF) S18 (by rw [unhide LP]; omega) (by omega)).mono ?_
  rintro e W19 ⟨rfl, ⟨pe, S19⟩, bl19⟩
  have bl19' := bl18'.trans (bl19.mono (Nat.le_of_lt hME))
  clear bl18' bl19 S18
  go_wp2_with fail
  refine (bytes_err E _ _ _ _ pe _ S19).mono ?_
  rintro e W20 ⟨rfl, rfl⟩
  go_wp2_with fail
  refine (err_is E _ _ _ _ pe _ S19).mono ?_
  rintro e W21 ⟨rfl, rfl⟩
  go_wp2_with fail
  refine (rest_w E _ _ _ _ _ _ S19).mono ?_
  rintro e W22 ⟨rfl, rfl⟩
  go_wp2_with fail
  refine (eq_yes E _ ap _ np _ cp p _ (by omega) S19.rd ((Rp.carry bl19' (Nat.le_refl _)).mono (Nat.le_of_lt hME)) (unhide LP) (Nat.le_of_lt S19.lt) (by omega)).mono ?_
  rintro e W23 ⟨rfl, bl23⟩
  have bl23' := bl19'.trans (bl23.mono (Nat.le_of_lt (Nat.lt_trans hME S19.lt)))
  clear bl19' bl23 S19
  go_wp2
  go_ret
  exact ⟨rfl, bl23'⟩

theorem frames_big (ap aq at' : Option Addr) (np nq nt cp cq ct : Nat) (w : World) (l1 : np ≤ maxLen) (l2 : nq ≤ maxLen) (l3 : nt ≤ maxLen) (h : ¬ np + nq + nt ≤ 1048576) :
    Calls Tryf.prog 3 #[.slice ap np cp, .slice aq nq cq, .slice at' nt ct] w fun e w' => e = .returned (.bool true) ∧ Below w.heap.size w w' := by
  go_enter Tryf.func3, Tryf.ntmps3
  go_wp2_with fail
  refine (bytes6_no ap aq at' np nq nt cp cq ct _ l1 l2 l3 h).mono ?_
  rintro e w0 ⟨rfl, rfl⟩
  go_wp2
  go_ret
  exact ⟨rfl, Below.refl _ _⟩

theorem frames (F : Interp) (ap aq at' : Option Addr) (np nq nt cp cq ct : Nat) (p q t : List UInt8) (w : World) (hF : F.answers w.tape)
    (Rp : Reads w.heap.size w ap p) (Rq : Reads w.heap.size w aq q) (Rt : Reads w.heap.size w at' t) (lp : p.length = np) (lq : q.length = nq) (lt : t.length = nt)
    (l1 : np ≤ maxLen) (l2 : nq ≤ maxLen) (l3 : nt ≤ maxLen) :
    Calls Tryf.prog 3 #[.slice ap np cp, .slice aq nq cq, .slice at' nt ct] w fun e w' => e = .returned (.bool true) ∧ Below w.heap.size w w' := by
  by_cases h : np + nq + nt ≤ 1048576
  · exact frames_small F ap aq at' np nq nt cp cq ct p q t w hF Rp Rq Rt lp lq lt h
  · exact frames_big ap aq at' np nq nt cp cq ct w l1 l2 l3 h
end Go.Proofs.Qxb6609199aFmt
