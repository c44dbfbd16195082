/-
  FnCountThenBytesList: the walk, FOR EVERY F.
-/
import Derived.Test.Qxb6609199aFmtItems
import Derived.Deep.RegionWith
namespace Go.Proofs.Qxb6609199aFmt
open Go.RowKit Go.Extern.Stop Go.Stop Go.Extern
set_option linter.unusedVariables false
attribute [local go_sem] eqNil neNil

theorem wire_take (its : List It) (h : ∀ j (hj : j < its.length), its[j].xs.length = its[j].n) (k : Nat) (hk : k ≤ its.length) : (wireOf (its.take k)).length = 4 * k + tot (its.take k) := by
  rw [wireOf_length]
  · rw [List.length_take]; omega
  · intro j hj
    rw [List.length_take] at hj
    rw [List.getElem_take]
    exact h j (by omega)

theorem Items.lens {B : Nat} {w : World} {ai : Option Addr} {its : List It} (I : Items B w ai its) : ∀ j (hj : j < its.length), its[j].xs.length = its[j].n := by
  intro j hj
  obtain ⟨_, _, _, _, _, _, h, _⟩ := I j hj
  exact h

theorem count_fr (D : Nat) (a : Option Addr) (n c m s : Nat) (si : Int) (xs : List UInt8) (w : World) (hsi : si = (s : Int)) (S : St w D a n c (be4 m ++ xs) .nilIface)
    (hm : m < 4294967296) (hs : s ≤ 4294967296) (hx : m * s ≤ xs.length) :
    Calls Tryf.prog 16 #[.pointer (some ⟨D, 0, none⟩), .int .i64 si] w fun e w' => e = .returned (.int .i64 m) ∧ St w' D (adv a c 4) (n - 4) (c - 4) xs .nilIface ∧ Below D w w' :=
  count_ok D a n c m s si _ _ _ _ xs w hsi S (num4_be4 m hm) hs hx

theorem count_fr_over (F : Interp) (D : Nat) (a : Option Addr) (n c m s : Nat) (si : Int) (xs : List UInt8) (w : World) (hF : F.answers w.tape) (hsi : si = (s : Int)) (S : St w D a n c (be4 m ++ xs) .nilIface)
    (hm : m < 4294967296) (hs : s ≤ 4294967296) (hx : xs.length < m * s) :
    Calls Tryf.prog 16 #[.pointer (some ⟨D, 0, none⟩), .int .i64 si] w fun e w' => e = .returned (.int .i64 0) ∧ (∃ p, St w' D (adv a c 4) (n - 4) (c - 4) xs (.iface 52 (.pointer (some p)))) ∧ Below D w w' :=
  count_over F D a n c m s si _ _ _ _ xs w hF hsi S (num4_be4 m hm) hs hx

set_option maxRecDepth 100000 in
set_option maxHeartbeats 4000000 in
theorem list_small (F : Interp) (ai at' : Option Addr) (K ci nt ct : Nat) (its : List It) (t : List UInt8) (w : World) (hF : F.answers w.tape)
    (I : Items w.heap.size w ai its) (Rt : Reads w.heap.size w at' t) (hK : its.length = K) (ht : t.length = nt) (h1 : K ≤ 65536) (h2 : nt + 8 * K ≤ 1048576) :
    Calls Tryf.prog 5 #[.slice ai K ci, .slice at' nt ct] w fun e w' => e = .returned (.bool true) ∧ Below w.heap.size w w' := by
  have h1' : (K : Int) ≤ 65536 := by omega
  have h2' : (nt : Int) + 8 * (K : Int) ≤ 1048576 := by omega
  have h3' : (nt : Int) ≤ 1048576 := by omega
  have HK := hide hK
  have HT := hide ht
  have LENS := hide I.lens
  clear hK ht
  generalize hM : w.heap.size = M at *
  have HM := hide hM
  clear hM
  go_enter Tryf.func5, Tryf.ntmps5
  go_wp2_with fail
  refine (bytes18 ai at' K ci nt ct M its _ I (unhide HK) (by unfold maxLen; omega) (by unfold maxLen; omega)).mono ?_
  rintro e w0 ⟨⟨b, rfl⟩, rfl⟩
  cases b
  · go_wp2
    go_ret
    exact ⟨rfl, Below.refl _ _⟩
  · go_wp2_with fail
    go_loop [5, 6] (fun z i => ∃ (k s : Nat), k ≤ K ∧ i = .int .i64 k ∧ z = .int .i64 s ∧ s ≤ 1048576 ∧ Hid (s = nt + 8 * K + tot (its.take k))) (fun _ i => K - (intOf i).toNat)
    case atStart => exact ⟨0, nt + 8 * K, Nat.zero_le _, rfl, by go_num, h2, hide (by simp [tot])⟩
    case round =>
      obtain ⟨k, s, hk, rfl, rfl, hs, hsum⟩ := hrel
      have hs' : (s : Int) ≤ 1048576 := by omega
      by_cases hlt : k < K
      · have hlt' : (k : Int) < (K : Int) := by omega
        have hkl : k < its.length := by rw [unhide HK]; exact hlt
        obtain ⟨b, o, rfl, l1, k1, _, _, l2⟩ := I k hkl
        have hsucc := hide (tot_succ its k hkl)
        generalize hx : its[k] = x at *
        obtain ⟨xa, xn, xc, xx⟩ := x
        clear hx
        unfold maxLen at l2
        by_cases h3 : 1048576 < xn
        · have h3' : 1048576 < (xn : Int) := by omega
          go_wp2
          go_ret
          exact ⟨rfl, Below.refl _ _⟩
        · have h3' : (xn : Int) ≤ 1048576 := by omega
          by_cases h4 : 1048576 < s + xn
          · have h4' : 1048576 < (s : Int) + (xn : Int) := by omega
            go_wp2
            go_ret
            exact ⟨rfl, Below.refl _ _⟩
          · have h4' : (s : Int) + (xn : Int) ≤ 1048576 := by omega
            go_wp2
            refine ⟨⟨k + 1, s + xn, by omega, by go_num, by go_num, by omega, hide ?_⟩, by simp [intOf]; omega⟩
            have e1 := unhide hsum
            have e2 := unhide hsucc
            simp only at e2
            omega
      · have hge : (K : Int) ≤ (k : Int) := by omega
        have hsum' : Hid (s = nt + 8 * K + tot its) := hide (by
          have := unhide hsum
          rw [List.take_of_length_le (by rw [unhide HK]; omega)] at this
          exact this)
        clear hsum
        obtain ⟨W1, hmk, B1, bl1, sz1⟩ := make_buf (4 + (s : Int)) (4 + s) w0 (by push_cast; rfl) (by omega)
        rw [unhide HM] at hmk B1 bl1 sz1
        go_wp2_with fail
        refine (put_be M 0 (4 + s) K [] _ B1 (by omega) (by omega)).mono ?_
        rintro e W2 ⟨rfl, B2, bl2⟩
        simp only [Nat.zero_add, List.nil_append] at B2
        have bl2' := bl1.trans bl2
        clear bl1 bl2 B1 hmk sz1
        generalize hcc : 4 + s = c at *
        have HC := hide hcc
        clear hcc
        have TT := hide (fun k' => tot_take_le its k')
        go_wp2_with fail
        go_loopw [7, 8] (fun msg i wr => ∃ (j len : Nat), j ≤ K ∧ i = .int .i64 j ∧ msg = .slice (some ⟨M, 0, none⟩) len c ∧ Buf wr M len c (be4 K ++ wireOf (its.take j)) ∧ Below M w0 wr) (fun _ i _ => K - (intOf i).toNat)
        case atStart => exact ⟨0, 4, Nat.zero_le _, rfl, rfl, by simpa [wireOf] using B2, bl2'⟩
        case round =>
          obtain ⟨j, len, hj, rfl, rfl, Bj, blj⟩ := hrel
          have hlen : Hid (len = 4 + (4 * j + tot (its.take j))) := hide (by
            have := Bj.len
            rw [List.length_append, be4_length, wire_take its (unhide LENS) j (by rw [unhide HK]; exact hj)] at this
            exact this.symm)
          by_cases hlt : j < K
          · have hlt' : (j : Int) < (K : Int) := by omega
            have hjl : j < its.length := by rw [unhide HK]; exact hlt
            obtain ⟨b, o, e0, l1, k1, Rj, lj, l2⟩ := (I.carry blj (Nat.le_refl _)) j hjl
            subst e0
            have hsucc := hide (tot_succ its j hjl)
            have wsucc := hide (wireOf_succ its j hjl)
            have room : Hid (len + 4 + its[j].n ≤ c ∧ its[j].n ≤ 1048576) := hide (by
              have e1 := unhide hlen
              have e2 := unhide hsucc
              have e3 := unhide TT (j + 1)
              have e4 := unhide hsum'
              have e5 := unhide HC
              omega)
            generalize hx : its[j] = x at *
            obtain ⟨xa, xn, xc, xx⟩ := x
            clear hx
            simp only at k1 Rj lj room hsucc wsucc
            obtain ⟨room1, room2⟩ := unhide room
            have room2' : (xn : Int) ≤ 1048576 := by omega
            have LJ := hide lj
            clear lj l2
            go_wp2_with fail
            refine (put_be M len c xn _ _ Bj (by omega) (by omega)).mono ?_
            rintro e W4 ⟨rfl, B4, bl4⟩
            have R4 := Rj.carry bl4 (Nat.le_refl _)
            have k4 : W4.cell? ⟨b, o + j, none⟩ = some (.slice xa xn xc) := by rw [bl4.cell (p := ⟨b, o + j, none⟩) l1]; exact k1
            have bl4' := blj.trans bl4
            clear Bj blj bl4 Rj k1
            go_wp2_with (at_builtin; refine wpList_append_buf _ rfl _ _ rfl rfl M M (len + 4) c xn xc _ xx xa rfl rfl (by exact B4) (by exact R4) (unhide LJ) room1 ?_; intro W5 B5 bl5)
            refine ⟨⟨j + 1, len + 4 + xn, by omega, by go_num, rfl, ?_, bl4'.trans bl5⟩, by simp [intOf]; omega⟩
            rw [unhide wsucc]
            simp only [List.append_assoc] at B5 ⊢
            exact B5
          · have hge : (K : Int) ≤ (j : Int) := by omega
            have hjK : Hid (its.take j = its) := hide (List.take_of_length_le (by rw [unhide HK]; omega))
            have hlenK : Hid (len = 4 + (4 * K + tot its)) := hide (by
              have := unhide hlen
              rw [unhide hjK] at this
              omega)
            have BK : Buf wr M len c (be4 K ++ wireOf its) := by rw [unhide hjK] at Bj; exact Bj
            have room : len + nt ≤ c := by
              have e1 := unhide hlenK
              have e4 := unhide hsum'
              have e5 := unhide HC
              omega
            have RtK := Rt.carry blj (Nat.le_refl _)
            clear hlen hjK Bj
            go_wp2_with (at_builtin; refine wpList_append_buf _ rfl _ _ rfl rfl M M len c nt ct _ t at' rfl rfl (by exact BK) (by exact RtK) (unhide HT) room ?_; intro W5 B5 bl5)
            have bl5' := blj.trans bl5
            have hMD : M < W5.heap.size := B5.lt (by have := unhide HC; omega)
            have wl : Hid ((wireOf its ++ t).length = 4 * K + tot its + nt) := hide (by
              rw [List.length_append, wireOf_length its (unhide LENS), unhide HK, unhide HT])
            have small : len + nt ≤ 2097152 := by
              have e1 := unhide hlenK
              have e4 := unhide hsum'
              omega
            clear BK RtK blj bl5 bl2' B2
            refine (newDecoder (some ⟨M, 0, none⟩) (len + nt) c _ _ (B5.reads hMD) B5.len B5.le (by omega)).mono ?_
            rintro e W6 ⟨rfl, S6, bl6⟩
            generalize hDD : W5.heap.size = D at *
            clear hDD
            have B6 := B5.carry bl6 hMD
            have bl6' := bl5'.trans (bl6.mono (Nat.le_of_lt hMD))
            clear bl5' bl6 B5
            simp only [List.append_assoc] at S6
            go_wp2_with fail
            refine (count_fr D (some ⟨M, 0, none⟩) (len + nt) c K 4 4 (wireOf its ++ t) _ rfl S6 (by omega) (by omega) (by rw [unhide wl]; omega)).mono ?_
            rintro e W7 ⟨rfl, S7, bl7⟩
            have B7 := B6.carry bl7 hMD
            have bl7' := bl6'.trans (bl7.mono (Nat.le_of_lt hMD))
            clear bl6' bl7 B6 S6
            go_wp2_with fail
            refine (err_nil D _ _ _ _ _ S7).mono ?_
            rintro e W8 ⟨rfl, rfl⟩
            go_wp2_with fail
            go_loopw [11, 12] (fun i got wr => ∃ (q n' c' : Nat) (a : Addr), q ≤ K ∧ i = .int .i64 q ∧ St wr D (some a) n' c' (wireOf (its.drop q) ++ t) .nilIface ∧ Below D W8 wr) (fun i _ _ => K - (intOf i).toNat)
            case atStart =>
              obtain ⟨x0, ex⟩ : ∃ x, adv (some ⟨M, 0, none⟩) c 4 = some x := ⟨_, rfl⟩
              rw [ex] at S7
              exact ⟨0, _, _, x0, Nat.zero_le _, rfl, by simpa using S7, Below.refl _ _⟩
            case round =>
              obtain ⟨q, n', c', a, hq, rfl, Sq, blq⟩ := hrel
              have blM := bl7'.trans (blq.mono (Nat.le_of_lt hMD))
              by_cases hlt : q < K
              · have hlt' : (q : Int) < (K : Int) := by omega
                have hql : q < its.length := by rw [unhide HK]; exact hlt
                obtain ⟨b, o, e0, l1, k1, Rq, lq, l2⟩ := (I.carry blM (Nat.le_refl _)) q hql
                subst e0
                rw [wireOf_drop its q hql] at Sq
                have small2 : Hid (its[q].n ≤ 1048576) := hide (by
                  have e1 := tot_succ its q hql
                  have e2 := unhide TT (q + 1)
                  have e4 := unhide hsum'
                  omega)
                generalize hx : its[q] = x at *
                obtain ⟨xa, xn, xc, xx⟩ := x
                clear hx
                simp only at k1 Rq lq Sq small2
                simp only [List.append_assoc] at Sq
                have LQ := hide lq
                clear lq l2
                go_wp2_with fail
                refine (frame_ok D (some a) n' c' xn xx _ _ Sq (unhide LQ) (by have := unhide small2; omega)).mono ?_
                rintro e W10 ⟨rfl, S10, R10, bl10⟩
                obtain ⟨x1, e1⟩ : ∃ x, adv (some a) c' 4 = some x := ⟨_, rfl⟩
                rw [e1] at S10 R10 ⊢
                clear e1 Sq
                obtain ⟨x2, e2⟩ : ∃ x, adv (some x1) (c' - 4) xn = some x := ⟨_, rfl⟩
                rw [e2] at S10
                clear e2
                have Rq10 := Rq.carry bl10 (Nat.le_of_lt hMD)
                have k10 : W10.cell? ⟨b, o + q, none⟩ = some (.slice xa xn xc) := by rw [bl10.cell (p := ⟨b, o + q, none⟩) (Nat.lt_trans l1 hMD)]; exact k1
                have bl10' := blq.trans bl10
                clear Rq k1 blq bl10 blM
                go_wp2_with fail
                refine (eq_yes D (some x1) xa xn xn xn xc xx _ rfl R10 (Rq10.mono (Nat.le_of_lt hMD)) (unhide LQ) (Nat.le_of_lt S10.lt) (by have := unhide small2; omega)).mono ?_
                rintro e W11 ⟨rfl, bl11⟩
                have S11 := S10.carry bl11 S10.lt
                have bl11' := bl10'.trans (bl11.mono (Nat.le_of_lt S10.lt))
                clear S10 bl10' bl11 Rq10 k10 R10
                go_wp2
                exact ⟨⟨q + 1, _, _, x2, by omega, by go_num, S11, bl11'⟩, by simp [intOf]; omega⟩
              · have hge : (K : Int) ≤ (q : Int) := by omega
                have hqK : Hid (its.drop q = []) := hide (List.drop_of_length_le (by rw [unhide HK]; omega))
                rw [unhide hqK] at Sq
                simp only [wireOf, List.nil_append] at Sq
                clear hqK
                have hnt : Hid (n' = nt) := hide (by have := Sq.len; rw [unhide HT] at this; exact this.symm)
                go_wp2_with fail
                refine (err_nil D _ _ _ _ _ Sq).mono ?_
                rintro e W12 ⟨rfl, rfl⟩
                go_wp2_with fail
                refine (rest_w D _ _ _ _ _ _ Sq).mono ?_
                rintro e W13 ⟨rfl, rfl⟩
                go_wp2_with fail
                refine (eq_yes D (some a) at' n' nt c' ct t _ (unhide hnt) Sq.rd ((Rt.carry blM (Nat.le_refl _)).mono (Nat.le_of_lt hMD)) (unhide HT) (Nat.le_of_lt Sq.lt) (by omega)).mono ?_
                rintro e W14 ⟨rfl, bl14⟩
                have B14 := (B7.carry blq hMD).carry bl14 (Nat.lt_trans hMD Sq.lt)
                have bl14' := blM.trans (bl14.mono (Nat.le_of_lt (Nat.lt_trans hMD Sq.lt)))
                have hME : M < W14.heap.size := by have h1 := bl14.size; have h2 := Sq.lt; omega
                clear Sq blq blM bl14 B7 S7 bl7'
                go_wp2_with fail
                refine (newDecoder (some ⟨M, 0, none⟩) (len + nt) c _ _ (B14.reads hME) B14.len B14.le (by omega)).mono ?_
                rintro e W15 ⟨rfl, S15, bl15⟩
                generalize hEE : W14.heap.size = E at *
                clear hEE
                have B15 := B14.carry bl15 hME
                have bl15' := bl14'.trans (bl15.mono (Nat.le_of_lt hME))
                clear bl14' bl15 B14
                simp only [List.append_assoc] at S15 B15
                have hl4 : 4 ≤ len := by have := unhide hlenK; omega
                have hl4' : (4 : Int) ≤ (len : Int) := by omega
                have small' : (len : Int) + (nt : Int) ≤ 2097152 := by omega
                have hR : Hid ((wireOf its ++ t).length = len + nt - 4) := hide (by
                  have := S15.len
                  rw [List.length_append, be4_length] at this
                  omega)
                go_wp2_with fail
                by_cases hK0 : K = 0
                · have hz : ((K : Int) == 0) = true := by simp; omega
                  have hx : K * (len + nt - 4 + 1) ≤ (wireOf its ++ t).length := by rw [hK0]; simp
                  have hts : Hid (tot its = 0) := hide (by
                    have : its = [] := List.eq_nil_of_length_eq_zero (by rw [unhide HK]; exact hK0)
                    rw [this]; rfl)
                  have HK0 := hide hK0
                  clear hK0
                  refine (count_fr E (some ⟨M, 0, none⟩) (len + nt) c K (len + nt - 4 + 1) _ (wireOf its ++ t) _ (by omega) S15 (by omega) (by omega) hx).mono ?_
                  rintro e W16 ⟨rfl, S16, bl16⟩
                  have B16 := B15.carry bl16 hME
                  have bl16' := bl15'.trans (bl16.mono (Nat.le_of_lt hME))
                  clear B15 S15 bl15' bl16 hx
                  have hln : (4 : Int) ≤ (len : Int) + (nt : Int) := by omega
                  have S17 := S16.carry ((Below.refl W16.heap.size W16).drew) S16.lt
                  have sE : Hid (E ≤ W16.drew.heap.size) := hide (Nat.le_of_lt S17.lt)
                  have blE := hide (bl16'.drew)
                  have sM : Hid (M ≤ W16.drew.heap.size) := hide (Nat.le_of_lt (Nat.lt_trans hME S17.lt))
                  by_cases hc4 : c = 4
                  · have h04 : len + nt - 4 = 0 := by have := B16.le; omega
                    have hnil : ∀ (B : Nat) (w : World) (a : Option Addr), Reads B w a [] := fun B w a j hj => by simp at hj
                    have HNIL := hide hnil
                    subst hc4
                    clear S16 B16 bl16' hnil
                    go_wp2_with fail
                    go_region_with (first
                      | (go_at_call 12; refine (err_nil E _ _ _ _ _ S17).mono ?_; rintro e w' ⟨rfl, rfl⟩)
                      | (go_at_call 11; refine (rest_w E _ _ _ _ _ _ S17).mono ?_; rintro e w' ⟨rfl, rfl⟩)
                      | (go_at_call 10; refine (eq_yes E _ _ 0 0 _ _ [] _ rfl (unhide HNIL _ _ _) (unhide HNIL _ _ _) rfl (unhide sE) (by omega)).mono ?_; rintro e w' ⟨rfl, bl18⟩))
                    all_goals
                      go_wp2
                      go_ret
                      exact ⟨rfl, (unhide blE).trans (bl18.mono (unhide sM))⟩
                  · have R17 : Reads E W16.drew (some ⟨M, 4, none⟩) (wireOf its ++ t) := by
                      have := ((B16.reads hME).carry ((Below.refl E W16).drew) (Nat.le_refl _)).drop c 4 (by
                        rw [List.length_append, be4_length, unhide hR]
                        have := B16.le
                        omega)
                      rw [List.drop_left' (be4_length K)] at this
                      have e : adv (some ⟨M, 0, none⟩) c 4 = some ⟨M, 4, none⟩ := by simp [adv, hc4, Addr.add]
                      rw [e] at this
                      exact this
                    clear S16 B16 bl16'
                    go_wp2_with fail
                    go_region_with (first
                      | (go_at_call 12; refine (err_nil E _ _ _ _ _ S17).mono ?_; rintro e w' ⟨rfl, rfl⟩)
                      | (go_at_call 11; refine (rest_w E _ _ _ _ _ _ S17).mono ?_; rintro e w' ⟨rfl, rfl⟩)
                      | (go_at_call 10; refine (eq_yes E _ _ (len + nt - 4) (len + nt - 4) _ _ (wireOf its ++ t) _ rfl S17.rd R17 (unhide hR) (unhide sE) (by omega)).mono ?_; rintro e w' ⟨rfl, bl18⟩))
                    all_goals
                      go_wp2
                      go_ret
                      exact ⟨rfl, (unhide blE).trans (bl18.mono (unhide sM))⟩
                · have hz : ((K : Int) == 0) = false := by simp; omega
                  have hx : (wireOf its ++ t).length < K * (len + nt - 4 + 1) := by
                    rw [unhide hR]
                    have : 1 * (len + nt - 4 + 1) ≤ K * (len + nt - 4 + 1) := Nat.mul_le_mul_right _ (by omega)
                    omega
                  refine (count_fr_over F E (some ⟨M, 0, none⟩) (len + nt) c K (len + nt - 4 + 1) _ (wireOf its ++ t) _ (by rw [bl15'.tape]; exact hF) (by omega) S15 (by omega) (by omega) hx).mono ?_
                  rintro e W16 ⟨rfl, ⟨p, S16⟩, bl16⟩
                  have B16 := B15.carry bl16 hME
                  have bl16' := bl15'.trans (bl16.mono (Nat.le_of_lt hME))
                  clear B15 S15 bl15' bl16 hx
                  have hc4 : ¬ c = 4 := by
                    have e1 := unhide hlenK
                    have e4 := unhide hsum'
                    have e5 := unhide HC
                    omega
                  have hln : (4 : Int) ≤ (len : Int) + (nt : Int) := by omega
                  have S17 := S16.carry ((Below.refl W16.heap.size W16).drew) S16.lt
                  have R17 : Reads E W16.drew (some ⟨M, 4, none⟩) (wireOf its ++ t) := by
                    have := ((B16.reads hME).carry ((Below.refl E W16).drew) (Nat.le_refl _)).drop c 4 (by
                      rw [List.length_append, be4_length, unhide hR]
                      have := B16.le
                      omega)
                    rw [List.drop_left' (be4_length K)] at this
                    have e : adv (some ⟨M, 0, none⟩) c 4 = some ⟨M, 4, none⟩ := by simp [adv, hc4, Addr.add]
                    rw [e] at this
                    exact this
                  have sE : Hid (E ≤ W16.drew.heap.size) := hide (Nat.le_of_lt S17.lt)
                  have blE := hide (bl16'.drew)
                  have sM : Hid (M ≤ W16.drew.heap.size) := hide (Nat.le_of_lt (Nat.lt_trans hME S17.lt))
                  clear S16 B16 bl16'
                  go_wp2_with fail
                  go_region_with (first
                    | (go_at_call 12; refine (err_is E _ _ _ _ p _ S17).mono ?_; rintro e w' ⟨rfl, rfl⟩)
                    | (go_at_call 11; refine (rest_w E _ _ _ _ _ _ S17).mono ?_; rintro e w' ⟨rfl, rfl⟩)
                    | (go_at_call 10; refine (eq_yes E _ _ (len + nt - 4) (len + nt - 4) _ _ (wireOf its ++ t) _ rfl S17.rd R17 (unhide hR) (unhide sE) (by omega)).mono ?_; rintro e w' ⟨rfl, bl18⟩))
                  all_goals
                    go_wp2
                    go_ret
                    exact ⟨rfl, (unhide blE).trans (bl18.mono (unhide sM))⟩

set_option maxRecDepth 100000 in
theorem list_big (ai at' : Option Addr) (K ci nt ct B : Nat) (its : List It) (w : World) (I : Items B w ai its) (hK : its.length = K) (lk : K ≤ maxLen) (lt : nt ≤ maxLen) (h : ¬ (K ≤ 65536 ∧ nt + 8 * K ≤ 1048576)) :
    Calls Tryf.prog 5 #[.slice ai K ci, .slice at' nt ct] w fun e w' => e = .returned (.bool true) ∧ Below w.heap.size w w' := by
  have l1 := lk
  have l2 := lt
  unfold maxLen at l1 l2
  by_cases h1 : 65536 < K
  · have h1' : 65536 < (K : Int) := by omega
    go_enter Tryf.func5, Tryf.ntmps5
    go_wp2_with fail
    refine (bytes18 ai at' K ci nt ct B its _ I hK lk lt).mono ?_
    rintro e w0 ⟨⟨b, rfl⟩, rfl⟩
    cases b
    · go_wp2
      go_ret
      exact ⟨rfl, Below.refl _ _⟩
    · go_wp2
      go_ret
      exact ⟨rfl, Below.refl _ _⟩
  · have h1' : (K : Int) ≤ 65536 := by omega
    by_cases h2 : 1048576 < nt
    · have h2' : 1048576 < (nt : Int) := by omega
      go_enter Tryf.func5, Tryf.ntmps5
      go_wp2_with fail
      refine (bytes18 ai at' K ci nt ct B its _ I hK lk lt).mono ?_
      rintro e w0 ⟨⟨b, rfl⟩, rfl⟩
      cases b
      · go_wp2
        go_ret
        exact ⟨rfl, Below.refl _ _⟩
      · go_wp2
        go_ret
        exact ⟨rfl, Below.refl _ _⟩
    · have h2' : (nt : Int) ≤ 1048576 := by omega
      have h3' : 1048576 < (nt : Int) + 8 * (K : Int) := by omega
      go_enter Tryf.func5, Tryf.ntmps5
      go_wp2_with fail
      refine (bytes18 ai at' K ci nt ct B its _ I hK lk lt).mono ?_
      rintro e w0 ⟨⟨b, rfl⟩, rfl⟩
      cases b
      · go_wp2
        go_ret
        exact ⟨rfl, Below.refl _ _⟩
      · go_wp2
        go_ret
        exact ⟨rfl, Below.refl _ _⟩

theorem list (F : Interp) (ai at' : Option Addr) (K ci nt ct : Nat) (its : List It) (t : List UInt8) (w : World) (hF : F.answers w.tape)
    (I : Items w.heap.size w ai its) (Rt : Reads w.heap.size w at' t) (hK : its.length = K) (ht : t.length = nt) (lk : K ≤ maxLen) (lt : nt ≤ maxLen) :
    Calls Tryf.prog 5 #[.slice ai K ci, .slice at' nt ct] w fun e w' => e = .returned (.bool true) ∧ Below w.heap.size w w' := by
  by_cases h : K ≤ 65536 ∧ nt + 8 * K ≤ 1048576
  · exact list_small F ai at' K ci nt ct its t w hF I Rt hK ht h.1 h.2
  · exact list_big ai at' K ci nt ct _ its w I hK lk lt h
end Go.Proofs.Qxb6609199aFmt
